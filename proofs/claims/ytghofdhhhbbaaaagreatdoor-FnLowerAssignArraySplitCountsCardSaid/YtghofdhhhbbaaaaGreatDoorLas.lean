/- Several texts in one. No condition. -/
import Derived.Test.YtghofdhhhbbaaaaGreatDoorRdc
import Derived.Test.YtghofdhhhbbaaaaGreatDoorDlwN
import Derived.Test.YtghofdhhhbbaaaaGreatDoorArp
import Derived.Test.YtghofdhhhbbaaaaGreatDoorZzp
import Derived.Test.YtghofdhhhbbaaaaGreatDoorNewP
import Derived.Test.YtghofdhhhbbaaaaGreatDoorIts
import Derived.Test.YtghofdhhhbbaaaaGreatDoorIfm
import Derived.Test.YtghofdhhhbbaaaaGreatDoorSla
import Derived.Test.YtghofdhhhbbaaaaGreatDoorLoop
import Derived.Test.YtghofdhhhbbaaaaGreatDoorMini
import Derived.Test.YtghofdhhhbbaaaaGreatDoorAppL
import Derived.Test.YtghofdhhhbbaaaaGreatDoorApp
import Derived.Test.YtghofdhhhbbaaaaGreatDoorOwnK
import Derived.Test.YtghofdhhhbbaaaaGreatDoorOwn
import Derived.Test.YtghofdhhhbbaaaaGreatDoorDeepCells
import Derived.Test.YtghofdhhhbbaaaaGreatDoorRows
import Derived.Test.YtghofdhhhbbaaaaGreatDoorLive
import Derived.Test.YtghofdhhhbbaaaaGreatDoorHla
import Derived.Test.YtghofdhhhbbaaaaGreatDoorWdh
import Derived.Test.YtghofdhhhbbaaaaGreatDoorGtR00
import Derived.Test.YtghofdhhhbbaaaaGreatDoorLiveG
import Derived.Test.YtghofdhhhbbaaaaGreatDoorAsg
namespace Go.Proofs.YtghofdhhhbbaaaaGreatDoor.Use
open Go.ChangeShapes Go.WideShapes Go.ChangeAt Go.RowKit Go.Sort Own
set_option linter.unusedVariables false
noncomputable def rLff3E (mm : Nat) (tt : Nat) (nd2 : Nat) (nd3 : Nat) (nd4 : Nat) (nd5 : Nat) (nd7 : Nat) (nd8 : Nat) (nd9 : List Value) (nd10 : Nat) (nd11 : Nat) (nd12 : Nat) (nd13 : Nat) (nd14 : Nat) (B16 : Nat) : Nat → Rega.Atoms → Value
  | 0, α => .pointer (some ⟨nd2, 0, none⟩)
  | 1, α => .agg #[.iface 205 (.pointer (some ⟨nd14, 0, none⟩)), .int .i32 0]
  | 2, α => .agg #[.iface 56 (.pointer (some ⟨α 2, 0, none⟩)), .int .i32 0]
  | 3, α => .tuple #[.agg #[.nilIface, .int .i32 0], .bool false]
  | 4, α => .tuple #[.agg #[.nilIface, .int .i32 0], .bool false]
  | 5, α => .agg #[.nilIface, .int .i32 0]
  | 6, α => .bool false
  | 7, α => .pointer (some ⟨α 7, 0, none⟩)
  | 8, α => undef
  | 9, α => .bool false
  | _, _ => undef
noncomputable def rLff3Anc : Nat → List Nat
  | 3 => [0, 1, 2]
  | 4 => [0, 1, 2, 3]
  | 5 => [0, 1, 2, 3, 4]
  | 6 => [0, 1, 2, 3, 4]
  | 8 => [0, 1, 2, 3, 4, 5, 7]
  | 9 => [0, 1, 2, 3, 4, 5, 6, 7, 8]
  | _ => []
noncomputable def rLff3Trn : Nat → List Nat
  | 8 => [7]
  | _ => []
noncomputable def rLff3Cnt : List (Nat × Nat) := [(7, 1)]
noncomputable def rLff3T7 (mm : Nat) (tt : Nat) (nd2 : Nat) (nd3 : Nat) (nd4 : Nat) (nd5 : Nat) (nd7 : Nat) (nd8 : Nat) (nd9 : List Value) (nd10 : Nat) (nd11 : Nat) (nd12 : Nat) (nd13 : Nat) (nd14 : Nat) (B16 : Nat) (L9 : Nat → Bool) (α : Rega.Atoms) : Rw := if L9 8 = true then row (α 7) 29 #[.nilIface, .int .i32 0] else row (α 7) 29 #[.nilIface, .int .i32 0]
noncomputable def rLff3R (mm : Nat) (tt : Nat) (nd2 : Nat) (nd3 : Nat) (nd4 : Nat) (nd5 : Nat) (nd7 : Nat) (nd8 : Nat) (nd9 : List Value) (nd10 : Nat) (nd11 : Nat) (nd12 : Nat) (nd13 : Nat) (nd14 : Nat) (B16 : Nat) (L9 : Nat → Bool) (α : Rega.Atoms) (ix9 : Nat) : Rw := if ix9 = 999 then row (B16) 29 #[.iface 205 (.pointer (some ⟨nd14, 0, none⟩)), .int .i32 0] else if ix9 = 1999 then row (nd14) 207 #[.slice (some ⟨nd7, 0, none⟩) (mm + 1 + tt) (mm + 1 + tt + nd8), .int .i32 0, .int .i32 0, .bool false, .bool false] else if ix9 = 2999 then row (nd7) 29 (full exZ nd9 nd8) else if ix9 = 3999 then row (nd10) 204 #[.slice (some ⟨nd11, 0, none⟩) 1 (1 + nd12), .int .i32 0, .int .i32 0, .bool false, .bool false] else if ix9 = 4999 then row (nd11) 52 (full prZ [.pointer none, .nilIface, .int .i32 0, .iface 56 (.pointer (some ⟨nd13, 0, none⟩)), .int .i32 0, .nilIface, .int .i32 0, .slice none 0 0, .int .i32 0, .int .i32 0, .int .u8 5, .int .u8 0] nd12) else if ix9 = 5999 then row (nd2) 182 (newPar nd3 nd4 nd5) else if ix9 = 7 then rLff3T7 mm tt nd2 nd3 nd4 nd5 nd7 nd8 nd9 nd10 nd11 nd12 nd13 nd14 B16 L9 α else (0, .map #[] 0)
theorem rLff3_he (mm : Nat) (tt : Nat) (nd2 : Nat) (nd3 : Nat) (nd4 : Nat) (nd5 : Nat) (nd7 : Nat) (nd8 : Nat) (nd9 : List Value) (nd10 : Nat) (nd11 : Nat) (nd12 : Nat) (nd13 : Nat) (nd14 : Nat) (B16 : Nat) : ∀ kk α α', (∀ j, (j % 1000 = kk ∨ j % 1000 ∈ rLff3Anc kk) → α j = α' j) → rLff3E mm tt nd2 nd3 nd4 nd5 nd7 nd8 nd9 nd10 nd11 nd12 nd13 nd14 B16 kk α = rLff3E mm tt nd2 nd3 nd4 nd5 nd7 nd8 nd9 nd10 nd11 nd12 nd13 nd14 B16 kk α' := by
  intro kk α α' h
  match kk with
  | 0 => rfl
  | 1 => rfl
  | 2 => simp only [rLff3E, h 2 (Or.inl rfl)]
  | 3 => rfl
  | 4 => rfl
  | 5 => rfl
  | 6 => rfl
  | 7 => simp only [rLff3E, h 7 (Or.inl rfl)]
  | 8 => rfl
  | 9 => rfl
  | n + 10 => rfl
theorem rLff3_st (mm : Nat) (tt : Nat) (nd2 : Nat) (nd3 : Nat) (nd4 : Nat) (nd5 : Nat) (nd7 : Nat) (nd8 : Nat) (nd9 : List Value) (nd10 : Nat) (nd11 : Nat) (nd12 : Nat) (nd13 : Nat) (nd14 : Nat) (B16 : Nat) : Stable rLff3Cnt 6 rLff3Anc rLff3Trn (rLff3R mm tt nd2 nd3 nd4 nd5 nd7 nd8 nd9 nd10 nd11 nd12 nd13 nd14 B16) := by
  intro k9 L9 α α' ix9 hk hcl hα hact ht
  have hp := act_places hact
  replace hp : ix9 ∈ [999, 1999, 2999, 3999, 4999, 5999, 7] := hp
  simp only [List.mem_cons, List.not_mem_nil, or_false] at hp
  rcases hp with rfl | rfl | rfl | rfl | rfl | rfl | rfl
  · rfl
  · rfl
  · rfl
  · rfl
  · rfl
  · rfl
  · have e0 : L9 7 = true := act_lt hact (by decide)
    show rLff3T7 mm tt nd2 nd3 nd4 nd5 nd7 nd8 nd9 nd10 nd11 nd12 nd13 nd14 B16 (Rega.ran L9 k9) α' = rLff3T7 mm tt nd2 nd3 nd4 nd5 nd7 nd8 nd9 nd10 nd11 nd12 nd13 nd14 B16 L9 α
    unfold rLff3T7
    have n8 : 8 ≠ k9 := fun e => ht (by rw [← e]; decide)
    rw [ran_ne n8]
    by_cases e8 : L9 8 = true
    · first | rw [if_pos e8, if_pos e8] | rw [if_pos e8]
      try simp only [hα 7 (ne_ran hk (hcl 8 e8 7 (by decide)))]
    first | rw [if_neg e8, if_neg e8] | rw [if_neg e8]
    try simp only [hα 7 (ne_ran hk e0)]
def law8ffPost (mm tt : Nat) (w0 : World) (X : Nat → Obj → Prop) (e : Ending) (w' : World) : Prop :=
  e = .returned (.bool true) ∧ Own w0 w' [] X
set_option maxRecDepth 100000 in
set_option maxHeartbeats 4000000 in
theorem law8ff (mm tt : Nat) (w0 w : World) (X : Nat → Obj → Prop) (hO : Own w0 w [] X) (hm4 : mm ≤ 4096) (ht4 : tt ≤ 4096) (hg0 : w0.cell? ⟨0, 0, none⟩ = some (.int .u32 4294967295)) (hg1 : w0.cell? ⟨0, 1, none⟩ = some (.int .u32 4294967295)) :
    Calls Tryz.prog 3 #[.int .i64 (mm : Int), .int .i64 (tt : Int), .bool false, .bool false] w (law8ffPost mm tt w0 X) := by
  go_enter Tryz.func3, Tryz.ntmps3
  have hm8 : (mm : Int) ≤ 4096 := by omega
  have ht8 : (tt : Int) ≤ 4096 := by omega
  have hm7 : (0 : Int) ≤ (mm : Int) := by omega
  have ht7 : (0 : Int) ≤ (tt : Int) := by omega
  go_wp2_with (first | (with_reducible refine Own.stay (fn := Tryz.f3) ?_) | fail)
  try with_reducible refine Own.Stay.mk ?_
  have hL := hO.apart
  have hX := hO.apartX
  have HL := Lib.hid hL
  have HX := Lib.hid hX
  clear hL hX
  have hP9 := hO.pick [] (by decide)
  have T9 := zzp0  _ _ _ hP9 hg0 hg1
  refine Calls.mono T9 ?_
  clear hP9 T9
  rintro e uw1 ⟨nd2, nd3, nd4, nd5, rfl, hQ⟩
  have hN : Own w0 uw1 [row (nd2) 182 (newPar nd3 nd4 nd5), row (nd3) 201 (full symZ (symL ([syk ⟨#[]⟩ 0])) 0), row (nd4) 194 #[.pointer none, .pointer none, .slice none 0 0, .map none, .slice none 0 0, .slice none 0 0, .int .i32 0, .int .i32 0, .int .u32 0, .int .u32 0, .bool false, .bool false, .bool false, .bool false, .int .u8 0, .int .u8 6], ((nd5, .map #[] 0) : Rw)] X := hQ.back HL.out HX.out [] (by decide) (by decide)
  clear hQ HL HX hO
  have hO := hN
  clear hN
  go_wp2_with (first | (with_reducible refine Own.stay (fn := Tryz.f3) ?_) | fail)
  try with_reducible refine Own.Stay.mk ?_
  have hL := hO.apart
  have hX := hO.apartX
  have HL := Lib.hid hL
  have HX := Lib.hid hX
  clear hL hX
  have hP9 := hO.pick [] (by decide)
  have T9 := arrPat mm tt _ _ _ hP9 hm4 ht4
  refine Calls.mono T9 ?_
  clear hP9 T9
  rintro e uw6 ⟨nd7, nd8, nd9, nd10, nd11, nd12, nd13, nd14, rfl, pr15, hQ⟩
  have hN : Own w0 uw6 [row (nd14) 207 #[.slice (some ⟨nd7, 0, none⟩) (mm + 1 + tt) (mm + 1 + tt + nd8), .int .i32 0, .int .i32 0, .bool false, .bool false], row (nd7) 29 (full exZ nd9 nd8), row (nd10) 204 #[.slice (some ⟨nd11, 0, none⟩) 1 (1 + nd12), .int .i32 0, .int .i32 0, .bool false, .bool false], row (nd11) 52 (full prZ [.pointer none, .nilIface, .int .i32 0, .iface 56 (.pointer (some ⟨nd13, 0, none⟩)), .int .i32 0, .nilIface, .int .i32 0, .slice none 0 0, .int .i32 0, .int .i32 0, .int .u8 5, .int .u8 0] nd12), row (nd2) 182 (newPar nd3 nd4 nd5), row (nd3) 201 (full symZ (symL ([syk ⟨#[]⟩ 0])) 0), row (nd4) 194 #[.pointer none, .pointer none, .slice none 0 0, .map none, .slice none 0 0, .slice none 0 0, .int .i32 0, .int .i32 0, .int .u32 0, .int .u32 0, .bool false, .bool false, .bool false, .bool false, .int .u8 0, .int .u8 6], ((nd5, .map #[] 0) : Rw)] X := hQ.back HL.out HX.out [0, 1, 2, 3] (by decide) (by decide)
  clear hQ HL HX hO
  have hO := hN
  clear hN
  have HI := Lib.hid pr15
  clear pr15
  obtain ⟨c9_0_0, c9_0_1, c9_0_2, c9_0_3, c9_0_4, lt9_0, y9_0, -⟩ := hO.k5 0 rfl
  obtain ⟨c9_2_0, c9_2_1, c9_2_2, c9_2_3, c9_2_4, lt9_2, y9_2, -⟩ := hO.k5 2 rfl
  have HO := Lib.hid hO
  clear hO
  go_wp2_with (first | (with_reducible refine Own.stay (fn := Tryz.f3) ?_) | fail)
  try with_reducible refine Own.Stay.mk ?_
  have hO := HO.out
  clear HO c9_0_0 c9_0_1 c9_0_2 c9_0_3 c9_0_4 lt9_0 y9_0 c9_2_0 c9_2_1 c9_2_2 c9_2_3 c9_2_4 lt9_2 y9_2
  generalize hW : World.alloc _ _ = W17
  have hN : Own w0 W17 [row (uw6.heap.size) 29 #[.iface 205 (.pointer (some ⟨nd14, 0, none⟩)), .int .i32 0], row (nd14) 207 #[.slice (some ⟨nd7, 0, none⟩) (mm + 1 + tt) (mm + 1 + tt + nd8), .int .i32 0, .int .i32 0, .bool false, .bool false], row (nd7) 29 (full exZ nd9 nd8), row (nd10) 204 #[.slice (some ⟨nd11, 0, none⟩) 1 (1 + nd12), .int .i32 0, .int .i32 0, .bool false, .bool false], row (nd11) 52 (full prZ [.pointer none, .nilIface, .int .i32 0, .iface 56 (.pointer (some ⟨nd13, 0, none⟩)), .int .i32 0, .nilIface, .int .i32 0, .slice none 0 0, .int .i32 0, .int .i32 0, .int .u8 5, .int .u8 0] nd12), row (nd2) 182 (newPar nd3 nd4 nd5), row (nd3) 201 (full symZ (symL ([syk ⟨#[]⟩ 0])) 0), row (nd4) 194 #[.pointer none, .pointer none, .slice none 0 0, .map none, .slice none 0 0, .slice none 0 0, .int .i32 0, .int .i32 0, .int .u32 0, .int .u32 0, .bool false, .bool false, .bool false, .bool false, .int .u8 0, .int .u8 6], ((nd5, .map #[] 0) : Rw)] X := by
    rw [← hW]
    exact (hO).alloc' _ (uw6.heap.size) (by simp)
  clear hW hO
  generalize uw6.heap.size = B16 at hN ⊢
  have hO := hN
  clear hN
  have hL := hO.apart
  have hX := hO.apartX
  have HL := Lib.hid hL
  have HX := Lib.hid hX
  clear hL hX
  have hP9 := hO.pick [0, 1, 2, 3, 4, 5] (by decide)
  generalize hX9_18 : Own.Rest _ _ X = X9_18 at hP9
  replace hP9 : Own w0 W17 [row (B16) 29 #[.iface 205 (.pointer (some ⟨nd14, 0, none⟩)), .int .i32 0], row (nd14) 207 #[.slice (some ⟨nd7, 0, none⟩) (mm + 1 + tt) (mm + 1 + tt + nd8), .int .i32 0, .int .i32 0, .bool false, .bool false], row (nd7) 29 (full exZ nd9 nd8), row (nd10) 204 #[.slice (some ⟨nd11, 0, none⟩) 1 (1 + nd12), .int .i32 0, .int .i32 0, .bool false, .bool false], row (nd11) 52 (full prZ [.pointer none, .nilIface, .int .i32 0, .iface 56 (.pointer (some ⟨nd13, 0, none⟩)), .int .i32 0, .nilIface, .int .i32 0, .slice none 0 0, .int .i32 0, .int .i32 0, .int .u8 5, .int .u8 0] nd12), row (nd2) 182 (newPar nd3 nd4 nd5)] X9_18 := hP9
  clear hO
  have hO := hP9
  clear hP9
  have st9 := rLff3_st mm tt nd2 nd3 nd4 nd5 nd7 nd8 nd9 nd10 nd11 nd12 nd13 nd14 B16
  let R9 := rLff3R mm tt nd2 nd3 nd4 nd5 nd7 nd8 nd9 nd10 nd11 nd12 nd13 nd14 B16
  refine wp_region_own (e := rLff3E mm tt nd2 nd3 nd4 nd5 nd7 nd8 nd9 nd10 nd11 nd12 nd13 nd14 B16) (anc := rLff3Anc) (G := (fun L9 α u9 => OwnF w0 u9 (act rLff3Cnt 6 L9) (rLff3R mm tt nd2 nd3 nd4 nd5 nd7 nd8 nd9 nd10 nd11 nd12 nd13 nd14 B16 L9 α) X9_18)) (by kernel_rfl) (by kernel_rfl) (by kernel_rfl) (by kernel_rfl) (rLff3_he mm tt nd2 nd3 nd4 nd5 nd7 nd8 nd9 nd10 nd11 nd12 nd13 nd14 B16) ?_ (RunsAll.all ?_) ?_
  · have hp : ∀ i, act rLff3Cnt 6 (fun _ => false) i → i ∈ [999, 1999, 2999, 3999, 4999, 5999] := by
      intro i hi
      have h9 : i % 1000 = 999 := by
        by_cases h : i % 1000 = 999
        · exact h
        · exact absurd (act_lt hi h) (by simp)
      unfold act at hi
      rw [if_pos h9] at hi
      simp only [List.mem_cons, List.not_mem_nil, or_false]
      omega
    refine hO.drew.family (fun i hi => ?_) (fun i j hi hj hij => ?_)
    · have := hp i hi
      simp only [List.mem_cons, List.not_mem_nil, or_false] at this
      rcases this with rfl | rfl | rfl | rfl | rfl | rfl <;> rfl
    · have h1 := hp i hi
      have h2 := hp j hj
      simp only [List.mem_cons, List.not_mem_nil, or_false] at h1 h2
      omega
  · refine ⟨?_, ?_, ?_, ?_, ?_, ?_, ?_, ?_, ?_, ?_, trivial⟩
    · intro L9 α a9 u9 K9 hL hcl hA hG hS h0 h1 hK
      replace hL : L9 0 = false := hL
      have q9 : a9.tmps[9]? = some (.pointer (some ⟨nd2, 0, none⟩)) := (h0 9 (by kernel_rfl)).trans rfl
      have s9 := Rega.eval_of q9
      go_simp
      exact hK _ α _ (fun _ _ => rfl) rfl (step_same (st9) hL hcl rfl rfl hG)
    · intro L9 α a9 u9 K9 hL hcl hA hG hS h0 h1 hK
      replace hL : L9 1 = false := hL
      have q10 : a9.tmps[10]? = some (.pointer (some ⟨B16, 0, none⟩)) := (h0 10 (by kernel_rfl)).trans rfl
      have s10 := Rega.eval_of q10
      have e0 : R9 L9 α 999 = row (B16) 29 #[.iface 205 (.pointer (some ⟨nd14, 0, none⟩)), .int .i32 0] := rfl
      have hr := hG.rowAt 999 (act_base 999 rfl) e0
      have c0 : u9.cell? ⟨B16, 0, none⟩ = some (.iface 205 (.pointer (some ⟨nd14, 0, none⟩))) := hr.cell rfl
      have c1 : u9.cell? ⟨B16, 1, none⟩ = some (.int .i32 0) := hr.cell rfl
      clear hr e0
      go_simp
      exact hK _ α _ (fun _ _ => rfl) rfl (step_same (st9) hL hcl rfl rfl hG)
    · intro L9 α a9 u9 K9 hL hcl hA hG hS h0 h1 hK
      replace hL : L9 2 = false := hL
      go_simp
      have hM : ∀ i, i ∈ [] → act rLff3Cnt 6 L9 i := by intro i hi; simp at hi
      have hP : Own w0 u9 [] _ := hG.pick [] (by decide) (by simp)
      clear hM
      refine Calls.mono (newId  _ _ _ hP ) ?_
      rintro e9 u1 ⟨b0, rfl, hQ⟩
      obtain ⟨α', hα'⟩ : ∃ α' : Rega.Atoms, α' = (fun j => if j = 2 then b0 else α j) := ⟨_, rfl⟩
      have hα : ∀ j, j % 1000 ≠ 2 → α' j = α j := fun j hj => by rw [hα']; simp only []; rw [if_neg (by omega)]
      have hb0 : α' 2 = b0 := by rw [hα']; rfl
      skip
      refine hK _ α' _ hα ?_ (step_call (st9) hL hcl hα [] [] (by decide) (by decide) (by decide) (M := _) ?_ hG hQ)
      · show _ = (.agg #[.iface 56 (.pointer (some ⟨α' 2, 0, none⟩)), .int .i32 0] : Value)
        simp only [hb0]
      · rfl
    · intro L9 α a9 u9 K9 hL hcl hA hG hS h0 h1 hK
      replace hL : L9 3 = false := hL
      have q38 : a9.tmps[38]? = some (.pointer (some ⟨nd2, 0, none⟩)) := hS 0 38 (by decide) rfl (by show 38 < 88; decide)
      have s38 := Rega.eval_of q38
      have q39 : a9.tmps[39]? = some (.agg #[.iface 205 (.pointer (some ⟨nd14, 0, none⟩)), .int .i32 0]) := hS 1 39 (by decide) rfl (by show 39 < 88; decide)
      have s39 := Rega.eval_of q39
      have q40 : a9.tmps[40]? = some (.agg #[.iface 56 (.pointer (some ⟨α 2, 0, none⟩)), .int .i32 0]) := hS 2 40 (by decide) rfl (by show 40 < 88; decide)
      have s40 := Rega.eval_of q40
      go_simp
      have e0 : R9 L9 α 1999 = row (nd14) 207 #[.slice (some ⟨nd7, 0, none⟩) (mm + 1 + tt) (mm + 1 + tt + nd8), .int .i32 0, .int .i32 0, .bool false, .bool false] := rfl
      have e1 : R9 L9 α 2999 = row (nd7) 29 (full exZ nd9 nd8) := rfl
      have e2 : R9 L9 α 3999 = row (nd10) 204 #[.slice (some ⟨nd11, 0, none⟩) 1 (1 + nd12), .int .i32 0, .int .i32 0, .bool false, .bool false] := rfl
      have e3 : R9 L9 α 4999 = row (nd11) 52 (full prZ [.pointer none, .nilIface, .int .i32 0, .iface 56 (.pointer (some ⟨nd13, 0, none⟩)), .int .i32 0, .nilIface, .int .i32 0, .slice none 0 0, .int .i32 0, .int .i32 0, .int .u8 5, .int .u8 0] nd12) := rfl
      have e4 : R9 L9 α 5999 = row (nd2) 182 (newPar nd3 nd4 nd5) := rfl
      have hM : ∀ i, i ∈ [1999, 2999, 3999, 4999, 5999] → act rLff3Cnt 6 L9 i := by
        intro i hi
        simp only [List.mem_cons, List.not_mem_nil, or_false] at hi
        rcases hi with rfl | rfl | rfl | rfl | rfl
        · exact act_base 1999 rfl
        · exact act_base 2999 rfl
        · exact act_base 3999 rfl
        · exact act_base 4999 rfl
        · exact act_base 5999 rfl
      have hP : Own w0 u9 [row (nd14) 207 #[.slice (some ⟨nd7, 0, none⟩) (mm + 1 + tt) (mm + 1 + tt + nd8), .int .i32 0, .int .i32 0, .bool false, .bool false], row (nd7) 29 (full exZ nd9 nd8), row (nd10) 204 #[.slice (some ⟨nd11, 0, none⟩) 1 (1 + nd12), .int .i32 0, .int .i32 0, .bool false, .bool false], row (nd11) 52 (full prZ [.pointer none, .nilIface, .int .i32 0, .iface 56 (.pointer (some ⟨nd13, 0, none⟩)), .int .i32 0, .nilIface, .int .i32 0, .slice none 0 0, .int .i32 0, .int .i32 0, .int .u8 5, .int .u8 0] nd12), row (nd2) 182 (newPar nd3 nd4 nd5)] _ := (hG.pick [1999, 2999, 3999, 4999, 5999] (by decide) hM).conv (by
        show [R9 L9 α 1999, R9 L9 α 2999, R9 L9 α 3999, R9 L9 α 4999, R9 L9 α 5999] = _
        rw [e0, e1, e2, e3, e4])
      clear e0 e1 e2 e3 e4 hM
      refine Calls.mono (dlowM nd2 (newPar nd3 nd4 nd5) nd14 nd7 nd8 nd9 mm tt nd10 nd11 nd12 nd13 0 (α 2) 0 _ _ _ hP (newPar_23 _ _ _) HI.out hm4 ht4) ?_
      rintro e9 u1 ⟨rfl, hQ⟩
      obtain ⟨α', hα'⟩ : ∃ α' : Rega.Atoms, α' = α := ⟨_, rfl⟩
      have f0 : R9 (Rega.ran L9 3) α' 1999 = row (nd14) 207 #[.slice (some ⟨nd7, 0, none⟩) (mm + 1 + tt) (mm + 1 + tt + nd8), .int .i32 0, .int .i32 0, .bool false, .bool false] := rfl
      have f1 : R9 (Rega.ran L9 3) α' 2999 = row (nd7) 29 (full exZ nd9 nd8) := rfl
      have f2 : R9 (Rega.ran L9 3) α' 3999 = row (nd10) 204 #[.slice (some ⟨nd11, 0, none⟩) 1 (1 + nd12), .int .i32 0, .int .i32 0, .bool false, .bool false] := rfl
      have f3 : R9 (Rega.ran L9 3) α' 4999 = row (nd11) 52 (full prZ [.pointer none, .nilIface, .int .i32 0, .iface 56 (.pointer (some ⟨nd13, 0, none⟩)), .int .i32 0, .nilIface, .int .i32 0, .slice none 0 0, .int .i32 0, .int .i32 0, .int .u8 5, .int .u8 0] nd12) := rfl
      have f4 : R9 (Rega.ran L9 3) α' 5999 = row (nd2) 182 (newPar nd3 nd4 nd5) := rfl
      have hα : ∀ j, j % 1000 ≠ 3 → α' j = α j := fun j hj => by rw [hα']
      skip
      refine hK _ α' _ hα ?_ (step_call (st9) hL hcl hα [1999, 2999, 3999, 4999, 5999] [1999, 2999, 3999, 4999, 5999] (by decide) (by decide) (by decide) (M := _) ?_ hG hQ)
      · rfl
      · show [R9 (Rega.ran L9 3) α' 1999, R9 (Rega.ran L9 3) α' 2999, R9 (Rega.ran L9 3) α' 3999, R9 (Rega.ran L9 3) α' 4999, R9 (Rega.ran L9 3) α' 5999] = _
        rw [f0, f1, f2, f3, f4]
    · intro L9 α a9 u9 K9 hL hcl hA hG hS h0 h1 hK
      replace hL : L9 4 = false := hL
      have q41 : a9.tmps[41]? = some (.tuple #[.agg #[.nilIface, .int .i32 0], .bool false]) := hS 3 41 (by decide) rfl (by show 41 < 88; decide)
      have s41 := Rega.eval_of q41
      go_simp
      exact hK _ α _ (fun _ _ => rfl) rfl (step_same (st9) hL hcl rfl rfl hG)
    · intro L9 α a9 u9 K9 hL hcl hA hG hS h0 h1 hK
      replace hL : L9 5 = false := hL
      have q37 : a9.tmps[37]? = some (.tuple #[.agg #[.nilIface, .int .i32 0], .bool false]) := hS 4 37 (by decide) rfl (by show 37 < 88; decide)
      have s37 := Rega.eval_of q37
      go_simp
      exact hK _ α _ (fun _ _ => rfl) rfl (step_same (st9) hL hcl rfl rfl hG)
    · intro L9 α a9 u9 K9 hL hcl hA hG hS h0 h1 hK
      replace hL : L9 6 = false := hL
      have q37 : a9.tmps[37]? = some (.tuple #[.agg #[.nilIface, .int .i32 0], .bool false]) := hS 4 37 (by decide) rfl (by show 37 < 88; decide)
      have s37 := Rega.eval_of q37
      go_simp
      exact hK _ α _ (fun _ _ => rfl) rfl (step_same (st9) hL hcl rfl rfl hG)
    · intro L9 α a9 u9 K9 hL hcl hA hG hS h0 h1 hK
      replace hL : L9 7 = false := hL
      go_simp
      have e1 : R9 (Rega.ran L9 7) (fun j => if j = 7 then u9.heap.size else α j) 7 = row (u9.heap.size) 29 #[.nilIface, .int .i32 0] := by
        show rLff3T7 mm tt nd2 nd3 nd4 nd5 nd7 nd8 nd9 nd10 nd11 nd12 nd13 nd14 B16 (Rega.ran L9 7) (fun j => if j = 7 then u9.heap.size else α j) = _
        unfold rLff3T7
        exact ((if_neg (fun e => (fun e => by have := hcl 8 e 7 (by decide); rw [hL] at this; cases this) ((ran_ne (by decide)).symm.trans e))).trans rfl)
      exact hK _ (fun j => if j = 7 then u9.heap.size else α j) _ (fun j hj => if_neg (fun e => hj (by rw [e]))) rfl (step_alloc (st9) hL hcl rfl rfl (by decide) _ e1 hG)
    · intro L9 α a9 u9 K9 hL hcl hA hG hS h0 h1 hK
      replace hL : L9 8 = false := hL
      have q11 : a9.tmps[11]? = some (.pointer (some ⟨α 7, 0, none⟩)) := hS 7 11 (by decide) rfl (by show 11 < 88; decide)
      have s11 := Rega.eval_of q11
      have q42 : a9.tmps[42]? = some (.agg #[.nilIface, .int .i32 0]) := hS 5 42 (by decide) rfl (by show 42 < 88; decide)
      have s42 := Rega.eval_of q42
      have e0 : R9 L9 α 7 = row (α 7) 29 #[.nilIface, .int .i32 0] := by
        show rLff3T7 mm tt nd2 nd3 nd4 nd5 nd7 nd8 nd9 nd10 nd11 nd12 nd13 nd14 B16 L9 α = _
        unfold rLff3T7
        rw [if_neg (by rw [hL]; decide)]
      have hr := hG.rowAt 7 (act_new 7 rfl (hA 7 (by decide))) e0
      have c0 : u9.cell? ⟨α 7, 0, none⟩ = some (.nilIface) := hr.cell rfl
      have y0 : u9.frozen? ⟨α 7, 0, none⟩ = false := hr.free (0)
      have c1 : u9.cell? ⟨α 7, 1, none⟩ = some (.int .i32 0) := hr.cell rfl
      have y1 : u9.frozen? ⟨α 7, 1, none⟩ = false := hr.free (1)
      clear hr
      have E0 := Lib.hid e0
      clear e0
      go_simp
      have e1 : R9 (Rega.ran L9 8) α 7 = row (α 7) 29 #[.nilIface, .int .i32 0] := by
        show rLff3T7 mm tt nd2 nd3 nd4 nd5 nd7 nd8 nd9 nd10 nd11 nd12 nd13 nd14 B16 (Rega.ran L9 8) α = _
        unfold rLff3T7
        rw [if_pos (show Rega.ran L9 8 8 = true from rfl)]
      exact hK _ α _ (fun _ _ => rfl) rfl (step_sets (st9) hL hcl rfl 7 rfl (act_new 7 rfl (hA 7 (by decide))) E0.out (0) [.nilIface, .int .i32 0] (e1.trans rfl) hG)
    · intro L9 α a9 u9 K9 hL hcl hA hG hS h0 h1 hK
      replace hL : L9 9 = false := hL
      have q43 : a9.tmps[43]? = some (.bool false) := hS 6 43 (by decide) rfl (by show 43 < 88; decide)
      have s43 := Rega.eval_of q43
      go_simp
      exact hK _ α _ (fun _ _ => rfl) rfl (step_same (st9) hL hcl rfl rfl hG)
  clear st9
  intro α u hG
  have e0 : R9 (fun k => decide (k < 10)) α 999 = row (B16) 29 #[.iface 205 (.pointer (some ⟨nd14, 0, none⟩)), .int .i32 0] := rfl
  have e1 : R9 (fun k => decide (k < 10)) α 1999 = row (nd14) 207 #[.slice (some ⟨nd7, 0, none⟩) (mm + 1 + tt) (mm + 1 + tt + nd8), .int .i32 0, .int .i32 0, .bool false, .bool false] := rfl
  have e2 : R9 (fun k => decide (k < 10)) α 2999 = row (nd7) 29 (full exZ nd9 nd8) := rfl
  have e3 : R9 (fun k => decide (k < 10)) α 3999 = row (nd10) 204 #[.slice (some ⟨nd11, 0, none⟩) 1 (1 + nd12), .int .i32 0, .int .i32 0, .bool false, .bool false] := rfl
  have e4 : R9 (fun k => decide (k < 10)) α 4999 = row (nd11) 52 (full prZ [.pointer none, .nilIface, .int .i32 0, .iface 56 (.pointer (some ⟨nd13, 0, none⟩)), .int .i32 0, .nilIface, .int .i32 0, .slice none 0 0, .int .i32 0, .int .i32 0, .int .u8 5, .int .u8 0] nd12) := rfl
  have e5 : R9 (fun k => decide (k < 10)) α 5999 = row (nd2) 182 (newPar nd3 nd4 nd5) := rfl
  have e6 : R9 (fun k => decide (k < 10)) α 7 = row (α 7) 29 #[.nilIface, .int .i32 0] := by
    show rLff3T7 mm tt nd2 nd3 nd4 nd5 nd7 nd8 nd9 nd10 nd11 nd12 nd13 nd14 B16 (fun k => decide (k < 10)) α = _
    unfold rLff3T7
    rw [if_pos (by decide)]
  have hO : Own w0 u [row (B16) 29 #[.iface 205 (.pointer (some ⟨nd14, 0, none⟩)), .int .i32 0], row (nd14) 207 #[.slice (some ⟨nd7, 0, none⟩) (mm + 1 + tt) (mm + 1 + tt + nd8), .int .i32 0, .int .i32 0, .bool false, .bool false], row (nd7) 29 (full exZ nd9 nd8), row (nd10) 204 #[.slice (some ⟨nd11, 0, none⟩) 1 (1 + nd12), .int .i32 0, .int .i32 0, .bool false, .bool false], row (nd11) 52 (full prZ [.pointer none, .nilIface, .int .i32 0, .iface 56 (.pointer (some ⟨nd13, 0, none⟩)), .int .i32 0, .nilIface, .int .i32 0, .slice none 0 0, .int .i32 0, .int .i32 0, .int .u8 5, .int .u8 0] nd12), row (nd2) 182 (newPar nd3 nd4 nd5), row (α 7) 29 #[.nilIface, .int .i32 0]] X9_18 := (hG.list [999, 1999, 2999, 3999, 4999, 5999, 7] (by decide) (act_all (by decide))).conv (by
    show [R9 (fun k => decide (k < 10)) α 999, R9 (fun k => decide (k < 10)) α 1999, R9 (fun k => decide (k < 10)) α 2999, R9 (fun k => decide (k < 10)) α 3999, R9 (fun k => decide (k < 10)) α 4999, R9 (fun k => decide (k < 10)) α 5999, R9 (fun k => decide (k < 10)) α 7] = _
    rw [e0, e1, e2, e3, e4, e5, e6])
  clear hG e0 e1 e2 e3 e4 e5 e6 R9
  generalize hfr : Rega.frameAt _ _ _ _ _ = fr
  have hdf : fr = ⟨#[.int .i64 (mm : Int), .int .i64 (tt : Int), .bool false, .bool false, undef, undef, undef, undef, .bool false, .pointer (some ⟨nd2, 0, none⟩), .pointer (some ⟨B16, 0, none⟩), .pointer (some ⟨α 7, 0, none⟩), .bool false, undef, undef, undef, .int .i64 (mm : Int), .bool (decide ((mm : Int) < 0)), .bool (decide ((mm : Int) < 0)), .int .i64 (mm : Int), .bool (decide (4096 < (mm : Int))), .bool (decide ((mm : Int) < 0) || decide (4096 < (mm : Int))), .bool (decide ((mm : Int) < 0) || decide (4096 < (mm : Int))), .int .i64 (tt : Int), .bool (decide ((tt : Int) < 0)), .bool (decide ((mm : Int) < 0) || decide (4096 < (mm : Int)) || decide ((tt : Int) < 0)), .bool (decide ((mm : Int) < 0) || decide (4096 < (mm : Int)) || decide ((tt : Int) < 0)), .int .i64 (tt : Int), .bool (decide (4096 < (tt : Int))), .bool (decide ((mm : Int) < 0) || decide (4096 < (mm : Int)) || decide ((tt : Int) < 0) || decide (4096 < (tt : Int))), .bool false, .pointer (some ⟨nd2, 0, none⟩), .int .i64 (mm : Int), .int .i64 (tt : Int), .agg #[.iface 205 (.pointer (some ⟨nd14, 0, none⟩)), .int .i32 0], .bool false, undef, .tuple #[.agg #[.nilIface, .int .i32 0], .bool false], .pointer (some ⟨nd2, 0, none⟩), .agg #[.iface 205 (.pointer (some ⟨nd14, 0, none⟩)), .int .i32 0], .agg #[.iface 56 (.pointer (some ⟨α 2, 0, none⟩)), .int .i32 0], .tuple #[.agg #[.nilIface, .int .i32 0], .bool false], .agg #[.nilIface, .int .i32 0], .bool false, undef, undef, undef, undef, undef, undef, undef, undef, undef, undef, undef, undef, undef, undef, undef, undef, undef, undef, undef, undef, undef, undef, undef, undef, undef, undef, undef, undef, undef, undef, undef, undef, undef, undef, undef, undef, undef, undef, undef, undef, undef, undef, undef, undef], []⟩ := by rw [← hfr]; kernel_rfl
  clear hfr
  subst hdf
  generalize α 2 = nd19 at hO ⊢
  generalize α 7 = nd20 at hO ⊢
  clear α
  subst hX9_18
  have hN : Own w0 u [row (B16) 29 #[.iface 205 (.pointer (some ⟨nd14, 0, none⟩)), .int .i32 0], row (nd14) 207 #[.slice (some ⟨nd7, 0, none⟩) (mm + 1 + tt) (mm + 1 + tt + nd8), .int .i32 0, .int .i32 0, .bool false, .bool false], row (nd7) 29 (full exZ nd9 nd8), row (nd10) 204 #[.slice (some ⟨nd11, 0, none⟩) 1 (1 + nd12), .int .i32 0, .int .i32 0, .bool false, .bool false], row (nd11) 52 (full prZ [.pointer none, .nilIface, .int .i32 0, .iface 56 (.pointer (some ⟨nd13, 0, none⟩)), .int .i32 0, .nilIface, .int .i32 0, .slice none 0 0, .int .i32 0, .int .i32 0, .int .u8 5, .int .u8 0] nd12), row (nd2) 182 (newPar nd3 nd4 nd5), row (nd20) 29 #[.nilIface, .int .i32 0], row (nd3) 201 (full symZ (symL ([syk ⟨#[]⟩ 0])) 0), row (nd4) 194 #[.pointer none, .pointer none, .slice none 0 0, .map none, .slice none 0 0, .slice none 0 0, .int .i32 0, .int .i32 0, .int .u32 0, .int .u32 0, .bool false, .bool false, .bool false, .bool false, .int .u8 0, .int .u8 6], ((nd5, .map #[] 0) : Rw)] X := hO.back HL.out HX.out [6, 7, 8] (by decide) (by decide)
  clear hO HL HX
  have hO := hN
  clear hN
  obtain ⟨c9_0_0, c9_0_1, lt9_0, y9_0, -⟩ := hO.k2 0 rfl
  obtain ⟨c9_1_0, c9_1_1, c9_1_2, c9_1_3, c9_1_4, lt9_1, y9_1, -⟩ := hO.k5 1 rfl
  obtain ⟨c9_3_0, c9_3_1, c9_3_2, c9_3_3, c9_3_4, lt9_3, y9_3, -⟩ := hO.k5 3 rfl
  obtain ⟨c9_6_0, c9_6_1, lt9_6, y9_6, -⟩ := hO.k2 6 rfl
  have HO := Lib.hid hO
  clear hO
  go_wp2_with (first | (with_reducible refine Own.stay (fn := Tryz.f3) ?_) | fail)
  try with_reducible refine Own.Stay.mk ?_
  have hO := HO.out
  clear HO c9_0_0 c9_0_1 lt9_0 y9_0 c9_1_0 c9_1_1 c9_1_2 c9_1_3 c9_1_4 lt9_1 y9_1 c9_3_0 c9_3_1 c9_3_2 c9_3_3 c9_3_4 lt9_3 y9_3 c9_6_0 c9_6_1 lt9_6 y9_6
  have hL := hO.apart
  have hX := hO.apartX
  have HL := Lib.hid hL
  have HX := Lib.hid hX
  clear hL hX
  have hP9 := hO.pick [5] (by decide)
  have T9 := symCt1 nd2 (newPar nd3 nd4 nd5) nd3 _ _ _ hP9 (newPar_106 _ _ _)
  refine Calls.mono T9 ?_
  clear hP9 T9
  rintro e uw21 ⟨rfl, hQ⟩
  have hN : Own w0 uw21 [row (nd2) 182 (newPar nd3 nd4 nd5), row (B16) 29 #[.iface 205 (.pointer (some ⟨nd14, 0, none⟩)), .int .i32 0], row (nd14) 207 #[.slice (some ⟨nd7, 0, none⟩) (mm + 1 + tt) (mm + 1 + tt + nd8), .int .i32 0, .int .i32 0, .bool false, .bool false], row (nd7) 29 (full exZ nd9 nd8), row (nd10) 204 #[.slice (some ⟨nd11, 0, none⟩) 1 (1 + nd12), .int .i32 0, .int .i32 0, .bool false, .bool false], row (nd11) 52 (full prZ [.pointer none, .nilIface, .int .i32 0, .iface 56 (.pointer (some ⟨nd13, 0, none⟩)), .int .i32 0, .nilIface, .int .i32 0, .slice none 0 0, .int .i32 0, .int .i32 0, .int .u8 5, .int .u8 0] nd12), row (nd20) 29 #[.nilIface, .int .i32 0], row (nd3) 201 (full symZ (symL ([syk ⟨#[]⟩ 0])) 0), row (nd4) 194 #[.pointer none, .pointer none, .slice none 0 0, .map none, .slice none 0 0, .slice none 0 0, .int .i32 0, .int .i32 0, .int .u32 0, .int .u32 0, .bool false, .bool false, .bool false, .bool false, .int .u8 0, .int .u8 6], ((nd5, .map #[] 0) : Rw)] X := hQ.back HL.out HX.out [0, 1, 2, 3, 4, 6, 7, 8, 9] (by decide) (by decide)
  clear hQ HL HX hO
  have hO := hN
  clear hN
  obtain ⟨c9_1_0, c9_1_1, lt9_1, y9_1, -⟩ := hO.k2 1 rfl
  obtain ⟨c9_2_0, c9_2_1, c9_2_2, c9_2_3, c9_2_4, lt9_2, y9_2, -⟩ := hO.k5 2 rfl
  obtain ⟨c9_4_0, c9_4_1, c9_4_2, c9_4_3, c9_4_4, lt9_4, y9_4, -⟩ := hO.k5 4 rfl
  obtain ⟨c9_6_0, c9_6_1, lt9_6, y9_6, -⟩ := hO.k2 6 rfl
  have HO := Lib.hid hO
  clear hO
  go_wp2_with (first | (with_reducible refine Own.stay (fn := Tryz.f3) ?_) | fail)
  try with_reducible refine Own.Stay.mk ?_
  have hO := HO.out
  clear HO c9_1_0 c9_1_1 lt9_1 y9_1 c9_2_0 c9_2_1 c9_2_2 c9_2_3 c9_2_4 lt9_2 y9_2 c9_4_0 c9_4_1 c9_4_2 c9_4_3 c9_4_4 lt9_4 y9_4 c9_6_0 c9_6_1 lt9_6 y9_6
  have hL := hO.apart
  have hX := hO.apartX
  have HL := Lib.hid hL
  have HX := Lib.hid hX
  clear hL hX
  have hP9 := hO.pick [0] (by decide)
  have T9 := tmpCt0 nd2 (newPar nd3 nd4 nd5) _ _ _ hP9 (newPar_199 _ _ _)
  refine Calls.mono T9 ?_
  clear hP9 T9
  rintro e uw22 ⟨rfl, hQ⟩
  have hN : Own w0 uw22 [row (nd2) 182 (newPar nd3 nd4 nd5), row (B16) 29 #[.iface 205 (.pointer (some ⟨nd14, 0, none⟩)), .int .i32 0], row (nd14) 207 #[.slice (some ⟨nd7, 0, none⟩) (mm + 1 + tt) (mm + 1 + tt + nd8), .int .i32 0, .int .i32 0, .bool false, .bool false], row (nd7) 29 (full exZ nd9 nd8), row (nd10) 204 #[.slice (some ⟨nd11, 0, none⟩) 1 (1 + nd12), .int .i32 0, .int .i32 0, .bool false, .bool false], row (nd11) 52 (full prZ [.pointer none, .nilIface, .int .i32 0, .iface 56 (.pointer (some ⟨nd13, 0, none⟩)), .int .i32 0, .nilIface, .int .i32 0, .slice none 0 0, .int .i32 0, .int .i32 0, .int .u8 5, .int .u8 0] nd12), row (nd20) 29 #[.nilIface, .int .i32 0], row (nd3) 201 (full symZ (symL ([syk ⟨#[]⟩ 0])) 0), row (nd4) 194 #[.pointer none, .pointer none, .slice none 0 0, .map none, .slice none 0 0, .slice none 0 0, .int .i32 0, .int .i32 0, .int .u32 0, .int .u32 0, .bool false, .bool false, .bool false, .bool false, .int .u8 0, .int .u8 6], ((nd5, .map #[] 0) : Rw)] X := hQ.back HL.out HX.out [1, 2, 3, 4, 5, 6, 7, 8, 9] (by decide) (by decide)
  clear hQ HL HX hO
  have hO := hN
  clear hN
  obtain ⟨c9_1_0, c9_1_1, lt9_1, y9_1, -⟩ := hO.k2 1 rfl
  obtain ⟨c9_2_0, c9_2_1, c9_2_2, c9_2_3, c9_2_4, lt9_2, y9_2, -⟩ := hO.k5 2 rfl
  obtain ⟨c9_4_0, c9_4_1, c9_4_2, c9_4_3, c9_4_4, lt9_4, y9_4, -⟩ := hO.k5 4 rfl
  obtain ⟨c9_6_0, c9_6_1, lt9_6, y9_6, -⟩ := hO.k2 6 rfl
  have HO := Lib.hid hO
  clear hO
  go_wp2_with (first | (with_reducible refine Own.stay (fn := Tryz.f3) ?_) | fail)
  try with_reducible refine Own.Stay.mk ?_
  have hO := HO.out
  clear HO c9_1_0 c9_1_1 lt9_1 y9_1 c9_2_0 c9_2_1 c9_2_2 c9_2_3 c9_2_4 lt9_2 y9_2 c9_4_0 c9_4_1 c9_4_2 c9_4_3 c9_4_4 lt9_4 y9_4 c9_6_0 c9_6_1 lt9_6 y9_6
  refine bodyPost_ret (v := .bool true) ?_ rfl ⟨rfl, hO.sub [] (by decide)⟩
  simp [results, Tryz.results3, go_sem]
end Go.Proofs.YtghofdhhhbbaaaaGreatDoor.Use
namespace Go.Proofs.YtghofdhhhbbaaaaGreatDoor.Use
open Go.ChangeShapes Go.WideShapes Go.ChangeAt Go.RowKit Go.Sort Own
set_option linter.unusedVariables false
noncomputable def rLft4E (nd2 : Nat) (nd3 : Nat) (nd4 : Nat) (nd5 : Nat) (B16 : Nat) (nd19 : Nat) : Nat → Rega.Atoms → Value
  | 0, α => .pointer (some ⟨nd2, 0, none⟩)
  | 1, α => .agg #[.iface 56 (.pointer (some ⟨nd19, 0, none⟩)), .int .i32 0]
  | 2, α => .agg #[.iface 56 (.pointer (some ⟨α 2, 0, none⟩)), .int .i32 0]
  | 3, α => .tuple #[.agg #[.nilIface, .int .i32 0], .bool false]
  | 4, α => .tuple #[.agg #[.nilIface, .int .i32 0], .bool false]
  | 5, α => .agg #[.nilIface, .int .i32 0]
  | 6, α => .bool false
  | 7, α => .pointer (some ⟨α 7, 0, none⟩)
  | 8, α => undef
  | 9, α => .bool false
  | _, _ => undef
noncomputable def rLft4Anc : Nat → List Nat
  | 3 => [0, 1, 2]
  | 4 => [0, 1, 2, 3]
  | 5 => [0, 1, 2, 3, 4]
  | 6 => [0, 1, 2, 3, 4]
  | 8 => [0, 1, 2, 3, 4, 5, 7]
  | 9 => [0, 1, 2, 3, 4, 5, 6, 7, 8]
  | _ => []
noncomputable def rLft4Trn : Nat → List Nat
  | 8 => [7]
  | _ => []
noncomputable def rLft4Cnt : List (Nat × Nat) := [(7, 1)]
noncomputable def rLft4T7 (nd2 : Nat) (nd3 : Nat) (nd4 : Nat) (nd5 : Nat) (B16 : Nat) (nd19 : Nat) (L9 : Nat → Bool) (α : Rega.Atoms) : Rw := if L9 8 = true then row (α 7) 29 #[.nilIface, .int .i32 0] else row (α 7) 29 #[.nilIface, .int .i32 0]
noncomputable def rLft4R (nd2 : Nat) (nd3 : Nat) (nd4 : Nat) (nd5 : Nat) (B16 : Nat) (nd19 : Nat) (L9 : Nat → Bool) (α : Rega.Atoms) (ix9 : Nat) : Rw := if ix9 = 999 then row (B16) 29 #[.iface 56 (.pointer (some ⟨nd19, 0, none⟩)), .int .i32 0] else if ix9 = 1999 then row (nd2) 182 (newPar nd3 nd4 nd5) else if ix9 = 7 then rLft4T7 nd2 nd3 nd4 nd5 B16 nd19 L9 α else (0, .map #[] 0)
theorem rLft4_he (nd2 : Nat) (nd3 : Nat) (nd4 : Nat) (nd5 : Nat) (B16 : Nat) (nd19 : Nat) : ∀ kk α α', (∀ j, (j % 1000 = kk ∨ j % 1000 ∈ rLft4Anc kk) → α j = α' j) → rLft4E nd2 nd3 nd4 nd5 B16 nd19 kk α = rLft4E nd2 nd3 nd4 nd5 B16 nd19 kk α' := by
  intro kk α α' h
  match kk with
  | 0 => rfl
  | 1 => rfl
  | 2 => simp only [rLft4E, h 2 (Or.inl rfl)]
  | 3 => rfl
  | 4 => rfl
  | 5 => rfl
  | 6 => rfl
  | 7 => simp only [rLft4E, h 7 (Or.inl rfl)]
  | 8 => rfl
  | 9 => rfl
  | n + 10 => rfl
theorem rLft4_st (nd2 : Nat) (nd3 : Nat) (nd4 : Nat) (nd5 : Nat) (B16 : Nat) (nd19 : Nat) : Stable rLft4Cnt 2 rLft4Anc rLft4Trn (rLft4R nd2 nd3 nd4 nd5 B16 nd19) := by
  intro k9 L9 α α' ix9 hk hcl hα hact ht
  have hp := act_places hact
  replace hp : ix9 ∈ [999, 1999, 7] := hp
  simp only [List.mem_cons, List.not_mem_nil, or_false] at hp
  rcases hp with rfl | rfl | rfl
  · rfl
  · rfl
  · have e0 : L9 7 = true := act_lt hact (by decide)
    show rLft4T7 nd2 nd3 nd4 nd5 B16 nd19 (Rega.ran L9 k9) α' = rLft4T7 nd2 nd3 nd4 nd5 B16 nd19 L9 α
    unfold rLft4T7
    have n8 : 8 ≠ k9 := fun e => ht (by rw [← e]; decide)
    rw [ran_ne n8]
    by_cases e8 : L9 8 = true
    · first | rw [if_pos e8, if_pos e8] | rw [if_pos e8]
      try simp only [hα 7 (ne_ran hk (hcl 8 e8 7 (by decide)))]
    first | rw [if_neg e8, if_neg e8] | rw [if_neg e8]
    try simp only [hα 7 (ne_ran hk e0)]
def law8ftPost (mm tt : Nat) (w0 : World) (X : Nat → Obj → Prop) (e : Ending) (w' : World) : Prop :=
  e = .returned (.bool true) ∧ Own w0 w' [] X
set_option maxRecDepth 100000 in
set_option maxHeartbeats 4000000 in
theorem law8ft (mm tt : Nat) (w0 w : World) (X : Nat → Obj → Prop) (hO : Own w0 w [] X) (hm4 : mm ≤ 4096) (ht4 : tt ≤ 4096) (hg0 : w0.cell? ⟨0, 0, none⟩ = some (.int .u32 4294967295)) (hg1 : w0.cell? ⟨0, 1, none⟩ = some (.int .u32 4294967295)) :
    Calls Tryz.prog 3 #[.int .i64 (mm : Int), .int .i64 (tt : Int), .bool false, .bool true] w (law8ftPost mm tt w0 X) := by
  go_enter Tryz.func3, Tryz.ntmps3
  have hm8 : (mm : Int) ≤ 4096 := by omega
  have ht8 : (tt : Int) ≤ 4096 := by omega
  have hm7 : (0 : Int) ≤ (mm : Int) := by omega
  have ht7 : (0 : Int) ≤ (tt : Int) := by omega
  go_wp2_with (first | (with_reducible refine Own.stay (fn := Tryz.f3) ?_) | fail)
  try with_reducible refine Own.Stay.mk ?_
  have hL := hO.apart
  have hX := hO.apartX
  have HL := Lib.hid hL
  have HX := Lib.hid hX
  clear hL hX
  have hP9 := hO.pick [] (by decide)
  have T9 := zzp0  _ _ _ hP9 hg0 hg1
  refine Calls.mono T9 ?_
  clear hP9 T9
  rintro e uw1 ⟨nd2, nd3, nd4, nd5, rfl, hQ⟩
  have hN : Own w0 uw1 [row (nd2) 182 (newPar nd3 nd4 nd5), row (nd3) 201 (full symZ (symL ([syk ⟨#[]⟩ 0])) 0), row (nd4) 194 #[.pointer none, .pointer none, .slice none 0 0, .map none, .slice none 0 0, .slice none 0 0, .int .i32 0, .int .i32 0, .int .u32 0, .int .u32 0, .bool false, .bool false, .bool false, .bool false, .int .u8 0, .int .u8 6], ((nd5, .map #[] 0) : Rw)] X := hQ.back HL.out HX.out [] (by decide) (by decide)
  clear hQ HL HX hO
  have hO := hN
  clear hN
  go_wp2_with (first | (with_reducible refine Own.stay (fn := Tryz.f3) ?_) | fail)
  try with_reducible refine Own.Stay.mk ?_
  have hL := hO.apart
  have hX := hO.apartX
  have HL := Lib.hid hL
  have HX := Lib.hid hX
  clear hL hX
  have hP9 := hO.pick [] (by decide)
  have T9 := arrPat mm tt _ _ _ hP9 hm4 ht4
  refine Calls.mono T9 ?_
  clear hP9 T9
  rintro e uw6 ⟨nd7, nd8, nd9, nd10, nd11, nd12, nd13, nd14, rfl, pr15, hQ⟩
  have hN : Own w0 uw6 [row (nd14) 207 #[.slice (some ⟨nd7, 0, none⟩) (mm + 1 + tt) (mm + 1 + tt + nd8), .int .i32 0, .int .i32 0, .bool false, .bool false], row (nd7) 29 (full exZ nd9 nd8), row (nd10) 204 #[.slice (some ⟨nd11, 0, none⟩) 1 (1 + nd12), .int .i32 0, .int .i32 0, .bool false, .bool false], row (nd11) 52 (full prZ [.pointer none, .nilIface, .int .i32 0, .iface 56 (.pointer (some ⟨nd13, 0, none⟩)), .int .i32 0, .nilIface, .int .i32 0, .slice none 0 0, .int .i32 0, .int .i32 0, .int .u8 5, .int .u8 0] nd12), row (nd2) 182 (newPar nd3 nd4 nd5), row (nd3) 201 (full symZ (symL ([syk ⟨#[]⟩ 0])) 0), row (nd4) 194 #[.pointer none, .pointer none, .slice none 0 0, .map none, .slice none 0 0, .slice none 0 0, .int .i32 0, .int .i32 0, .int .u32 0, .int .u32 0, .bool false, .bool false, .bool false, .bool false, .int .u8 0, .int .u8 6], ((nd5, .map #[] 0) : Rw)] X := hQ.back HL.out HX.out [0, 1, 2, 3] (by decide) (by decide)
  clear hQ HL HX hO
  have hO := hN
  clear hN
  have HI := Lib.hid pr15
  clear pr15
  obtain ⟨c9_0_0, c9_0_1, c9_0_2, c9_0_3, c9_0_4, lt9_0, y9_0, -⟩ := hO.k5 0 rfl
  obtain ⟨c9_2_0, c9_2_1, c9_2_2, c9_2_3, c9_2_4, lt9_2, y9_2, -⟩ := hO.k5 2 rfl
  have HO := Lib.hid hO
  clear hO
  go_wp2_with (first | (with_reducible refine Own.stay (fn := Tryz.f3) ?_) | fail)
  try with_reducible refine Own.Stay.mk ?_
  have hO := HO.out
  clear HO c9_0_0 c9_0_1 c9_0_2 c9_0_3 c9_0_4 lt9_0 y9_0 c9_2_0 c9_2_1 c9_2_2 c9_2_3 c9_2_4 lt9_2 y9_2
  generalize hW : World.alloc _ _ = W17
  have hN : Own w0 W17 [row (uw6.heap.size) 29 #[.iface 205 (.pointer (some ⟨nd14, 0, none⟩)), .int .i32 0], row (nd14) 207 #[.slice (some ⟨nd7, 0, none⟩) (mm + 1 + tt) (mm + 1 + tt + nd8), .int .i32 0, .int .i32 0, .bool false, .bool false], row (nd7) 29 (full exZ nd9 nd8), row (nd10) 204 #[.slice (some ⟨nd11, 0, none⟩) 1 (1 + nd12), .int .i32 0, .int .i32 0, .bool false, .bool false], row (nd11) 52 (full prZ [.pointer none, .nilIface, .int .i32 0, .iface 56 (.pointer (some ⟨nd13, 0, none⟩)), .int .i32 0, .nilIface, .int .i32 0, .slice none 0 0, .int .i32 0, .int .i32 0, .int .u8 5, .int .u8 0] nd12), row (nd2) 182 (newPar nd3 nd4 nd5), row (nd3) 201 (full symZ (symL ([syk ⟨#[]⟩ 0])) 0), row (nd4) 194 #[.pointer none, .pointer none, .slice none 0 0, .map none, .slice none 0 0, .slice none 0 0, .int .i32 0, .int .i32 0, .int .u32 0, .int .u32 0, .bool false, .bool false, .bool false, .bool false, .int .u8 0, .int .u8 6], ((nd5, .map #[] 0) : Rw)] X := by
    rw [← hW]
    exact (hO).alloc' _ (uw6.heap.size) (by simp)
  clear hW hO
  generalize uw6.heap.size = B16 at hN ⊢
  have hO := hN
  clear hN
  have hL := hO.apart
  have hX := hO.apartX
  have HL := Lib.hid hL
  have HX := Lib.hid hX
  clear hL hX
  have hP9 := hO.pick [] (by decide)
  have T9 := newId  _ _ _ hP9 
  refine Calls.mono T9 ?_
  clear hP9 T9
  rintro e uw18 ⟨nd19, rfl, hQ⟩
  have hN : Own w0 uw18 [row (B16) 29 #[.iface 205 (.pointer (some ⟨nd14, 0, none⟩)), .int .i32 0], row (nd14) 207 #[.slice (some ⟨nd7, 0, none⟩) (mm + 1 + tt) (mm + 1 + tt + nd8), .int .i32 0, .int .i32 0, .bool false, .bool false], row (nd7) 29 (full exZ nd9 nd8), row (nd10) 204 #[.slice (some ⟨nd11, 0, none⟩) 1 (1 + nd12), .int .i32 0, .int .i32 0, .bool false, .bool false], row (nd11) 52 (full prZ [.pointer none, .nilIface, .int .i32 0, .iface 56 (.pointer (some ⟨nd13, 0, none⟩)), .int .i32 0, .nilIface, .int .i32 0, .slice none 0 0, .int .i32 0, .int .i32 0, .int .u8 5, .int .u8 0] nd12), row (nd2) 182 (newPar nd3 nd4 nd5), row (nd3) 201 (full symZ (symL ([syk ⟨#[]⟩ 0])) 0), row (nd4) 194 #[.pointer none, .pointer none, .slice none 0 0, .map none, .slice none 0 0, .slice none 0 0, .int .i32 0, .int .i32 0, .int .u32 0, .int .u32 0, .bool false, .bool false, .bool false, .bool false, .int .u8 0, .int .u8 6], ((nd5, .map #[] 0) : Rw)] X := hQ.back HL.out HX.out [0, 1, 2, 3, 4, 5, 6, 7, 8] (by decide) (by decide)
  clear hQ HL HX hO
  have hO := hN
  clear hN
  obtain ⟨c9_0_0, c9_0_1, lt9_0, y9_0, -⟩ := hO.k2 0 rfl
  obtain ⟨c9_1_0, c9_1_1, c9_1_2, c9_1_3, c9_1_4, lt9_1, y9_1, -⟩ := hO.k5 1 rfl
  obtain ⟨c9_3_0, c9_3_1, c9_3_2, c9_3_3, c9_3_4, lt9_3, y9_3, -⟩ := hO.k5 3 rfl
  have HO := Lib.hid hO
  clear hO
  go_wp2_with (first | (with_reducible refine Own.stay (fn := Tryz.f3) ?_) | fail)
  try with_reducible refine Own.Stay.mk ?_
  have hO := HO.out
  clear HO c9_0_0 c9_0_1 lt9_0 y9_0 c9_1_0 c9_1_1 c9_1_2 c9_1_3 c9_1_4 lt9_1 y9_1 c9_3_0 c9_3_1 c9_3_2 c9_3_3 c9_3_4 lt9_3 y9_3
  generalize hW : World.setCell _ _ _ = W21
  have hN : Own w0 W21 [row (B16) 29 #[.iface 56 (.pointer (some ⟨nd19, 0, none⟩)), .int .i32 0], row (nd14) 207 #[.slice (some ⟨nd7, 0, none⟩) (mm + 1 + tt) (mm + 1 + tt + nd8), .int .i32 0, .int .i32 0, .bool false, .bool false], row (nd7) 29 (full exZ nd9 nd8), row (nd10) 204 #[.slice (some ⟨nd11, 0, none⟩) 1 (1 + nd12), .int .i32 0, .int .i32 0, .bool false, .bool false], row (nd11) 52 (full prZ [.pointer none, .nilIface, .int .i32 0, .iface 56 (.pointer (some ⟨nd13, 0, none⟩)), .int .i32 0, .nilIface, .int .i32 0, .slice none 0 0, .int .i32 0, .int .i32 0, .int .u8 5, .int .u8 0] nd12), row (nd2) 182 (newPar nd3 nd4 nd5), row (nd3) 201 (full symZ (symL ([syk ⟨#[]⟩ 0])) 0), row (nd4) 194 #[.pointer none, .pointer none, .slice none 0 0, .map none, .slice none 0 0, .slice none 0 0, .int .i32 0, .int .i32 0, .int .u32 0, .int .u32 0, .bool false, .bool false, .bool false, .bool false, .int .u8 0, .int .u8 6], ((nd5, .map #[] 0) : Rw)] X := by
    rw [← hW]
    exact ((hO).set 0 rfl 0 _).set 0 rfl 1 _
  clear hW hO
  have hO := hN
  clear hN
  have hL := hO.apart
  have hX := hO.apartX
  have HL := Lib.hid hL
  have HX := Lib.hid hX
  clear hL hX
  have hP9 := hO.pick [0, 5] (by decide)
  generalize hX9_22 : Own.Rest _ _ X = X9_22 at hP9
  replace hP9 : Own w0 W21 [row (B16) 29 #[.iface 56 (.pointer (some ⟨nd19, 0, none⟩)), .int .i32 0], row (nd2) 182 (newPar nd3 nd4 nd5)] X9_22 := hP9
  clear hO
  have hO := hP9
  clear hP9
  have st9 := rLft4_st nd2 nd3 nd4 nd5 B16 nd19
  let R9 := rLft4R nd2 nd3 nd4 nd5 B16 nd19
  refine wp_region_own (e := rLft4E nd2 nd3 nd4 nd5 B16 nd19) (anc := rLft4Anc) (G := (fun L9 α u9 => OwnF w0 u9 (act rLft4Cnt 2 L9) (rLft4R nd2 nd3 nd4 nd5 B16 nd19 L9 α) X9_22)) (by kernel_rfl) (by kernel_rfl) (by kernel_rfl) (by kernel_rfl) (rLft4_he nd2 nd3 nd4 nd5 B16 nd19) ?_ (RunsAll.all ?_) ?_
  · have hp : ∀ i, act rLft4Cnt 2 (fun _ => false) i → i ∈ [999, 1999] := by
      intro i hi
      have h9 : i % 1000 = 999 := by
        by_cases h : i % 1000 = 999
        · exact h
        · exact absurd (act_lt hi h) (by simp)
      unfold act at hi
      rw [if_pos h9] at hi
      simp only [List.mem_cons, List.not_mem_nil, or_false]
      omega
    refine hO.drew.family (fun i hi => ?_) (fun i j hi hj hij => ?_)
    · have := hp i hi
      simp only [List.mem_cons, List.not_mem_nil, or_false] at this
      rcases this with rfl | rfl <;> rfl
    · have h1 := hp i hi
      have h2 := hp j hj
      simp only [List.mem_cons, List.not_mem_nil, or_false] at h1 h2
      omega
  · refine ⟨?_, ?_, ?_, ?_, ?_, ?_, ?_, ?_, ?_, ?_, trivial⟩
    · intro L9 α a9 u9 K9 hL hcl hA hG hS h0 h1 hK
      replace hL : L9 0 = false := hL
      have q9 : a9.tmps[9]? = some (.pointer (some ⟨nd2, 0, none⟩)) := (h0 9 (by kernel_rfl)).trans rfl
      have s9 := Rega.eval_of q9
      go_simp
      exact hK _ α _ (fun _ _ => rfl) rfl (step_same (st9) hL hcl rfl rfl hG)
    · intro L9 α a9 u9 K9 hL hcl hA hG hS h0 h1 hK
      replace hL : L9 1 = false := hL
      have q10 : a9.tmps[10]? = some (.pointer (some ⟨B16, 0, none⟩)) := (h0 10 (by kernel_rfl)).trans rfl
      have s10 := Rega.eval_of q10
      have e0 : R9 L9 α 999 = row (B16) 29 #[.iface 56 (.pointer (some ⟨nd19, 0, none⟩)), .int .i32 0] := rfl
      have hr := hG.rowAt 999 (act_base 999 rfl) e0
      have c0 : u9.cell? ⟨B16, 0, none⟩ = some (.iface 56 (.pointer (some ⟨nd19, 0, none⟩))) := hr.cell rfl
      have c1 : u9.cell? ⟨B16, 1, none⟩ = some (.int .i32 0) := hr.cell rfl
      clear hr e0
      go_simp
      exact hK _ α _ (fun _ _ => rfl) rfl (step_same (st9) hL hcl rfl rfl hG)
    · intro L9 α a9 u9 K9 hL hcl hA hG hS h0 h1 hK
      replace hL : L9 2 = false := hL
      go_simp
      have hM : ∀ i, i ∈ [] → act rLft4Cnt 2 L9 i := by intro i hi; simp at hi
      have hP : Own w0 u9 [] _ := hG.pick [] (by decide) (by simp)
      clear hM
      refine Calls.mono (newId  _ _ _ hP ) ?_
      rintro e9 u1 ⟨b0, rfl, hQ⟩
      obtain ⟨α', hα'⟩ : ∃ α' : Rega.Atoms, α' = (fun j => if j = 2 then b0 else α j) := ⟨_, rfl⟩
      have hα : ∀ j, j % 1000 ≠ 2 → α' j = α j := fun j hj => by rw [hα']; simp only []; rw [if_neg (by omega)]
      have hb0 : α' 2 = b0 := by rw [hα']; rfl
      skip
      refine hK _ α' _ hα ?_ (step_call (st9) hL hcl hα [] [] (by decide) (by decide) (by decide) (M := _) ?_ hG hQ)
      · show _ = (.agg #[.iface 56 (.pointer (some ⟨α' 2, 0, none⟩)), .int .i32 0] : Value)
        simp only [hb0]
      · rfl
    · intro L9 α a9 u9 K9 hL hcl hA hG hS h0 h1 hK
      replace hL : L9 3 = false := hL
      have q38 : a9.tmps[38]? = some (.pointer (some ⟨nd2, 0, none⟩)) := hS 0 38 (by decide) rfl (by show 38 < 88; decide)
      have s38 := Rega.eval_of q38
      have q39 : a9.tmps[39]? = some (.agg #[.iface 56 (.pointer (some ⟨nd19, 0, none⟩)), .int .i32 0]) := hS 1 39 (by decide) rfl (by show 39 < 88; decide)
      have s39 := Rega.eval_of q39
      have q40 : a9.tmps[40]? = some (.agg #[.iface 56 (.pointer (some ⟨α 2, 0, none⟩)), .int .i32 0]) := hS 2 40 (by decide) rfl (by show 40 < 88; decide)
      have s40 := Rega.eval_of q40
      go_simp
      have e0 : R9 L9 α 1999 = row (nd2) 182 (newPar nd3 nd4 nd5) := rfl
      have hM : ∀ i, i ∈ [1999] → act rLft4Cnt 2 L9 i := by
        intro i hi
        simp only [List.mem_cons, List.not_mem_nil, or_false] at hi
        subst hi
        exact act_base 1999 rfl
      have hP : Own w0 u9 [row (nd2) 182 (newPar nd3 nd4 nd5)] _ := (hG.pick [1999] (by decide) hM).conv (by
        show [R9 L9 α 1999] = _
        rw [e0])
      clear e0 hM
      refine Calls.mono (dlowI0 nd2 (newPar nd3 nd4 nd5) nd19 0 (α 2) 0 _ _ _ hP (newPar_23 _ _ _)) ?_
      rintro e9 u1 ⟨rfl, hQ⟩
      obtain ⟨α', hα'⟩ : ∃ α' : Rega.Atoms, α' = α := ⟨_, rfl⟩
      have f0 : R9 (Rega.ran L9 3) α' 1999 = row (nd2) 182 (newPar nd3 nd4 nd5) := rfl
      have hα : ∀ j, j % 1000 ≠ 3 → α' j = α j := fun j hj => by rw [hα']
      skip
      refine hK _ α' _ hα ?_ (step_call (st9) hL hcl hα [1999] [1999] (by decide) (by decide) (by decide) (M := _) ?_ hG hQ)
      · rfl
      · show [R9 (Rega.ran L9 3) α' 1999] = _
        rw [f0]
    · intro L9 α a9 u9 K9 hL hcl hA hG hS h0 h1 hK
      replace hL : L9 4 = false := hL
      have q41 : a9.tmps[41]? = some (.tuple #[.agg #[.nilIface, .int .i32 0], .bool false]) := hS 3 41 (by decide) rfl (by show 41 < 88; decide)
      have s41 := Rega.eval_of q41
      go_simp
      exact hK _ α _ (fun _ _ => rfl) rfl (step_same (st9) hL hcl rfl rfl hG)
    · intro L9 α a9 u9 K9 hL hcl hA hG hS h0 h1 hK
      replace hL : L9 5 = false := hL
      have q37 : a9.tmps[37]? = some (.tuple #[.agg #[.nilIface, .int .i32 0], .bool false]) := hS 4 37 (by decide) rfl (by show 37 < 88; decide)
      have s37 := Rega.eval_of q37
      go_simp
      exact hK _ α _ (fun _ _ => rfl) rfl (step_same (st9) hL hcl rfl rfl hG)
    · intro L9 α a9 u9 K9 hL hcl hA hG hS h0 h1 hK
      replace hL : L9 6 = false := hL
      have q37 : a9.tmps[37]? = some (.tuple #[.agg #[.nilIface, .int .i32 0], .bool false]) := hS 4 37 (by decide) rfl (by show 37 < 88; decide)
      have s37 := Rega.eval_of q37
      go_simp
      exact hK _ α _ (fun _ _ => rfl) rfl (step_same (st9) hL hcl rfl rfl hG)
    · intro L9 α a9 u9 K9 hL hcl hA hG hS h0 h1 hK
      replace hL : L9 7 = false := hL
      go_simp
      have e1 : R9 (Rega.ran L9 7) (fun j => if j = 7 then u9.heap.size else α j) 7 = row (u9.heap.size) 29 #[.nilIface, .int .i32 0] := by
        show rLft4T7 nd2 nd3 nd4 nd5 B16 nd19 (Rega.ran L9 7) (fun j => if j = 7 then u9.heap.size else α j) = _
        unfold rLft4T7
        exact ((if_neg (fun e => (fun e => by have := hcl 8 e 7 (by decide); rw [hL] at this; cases this) ((ran_ne (by decide)).symm.trans e))).trans rfl)
      exact hK _ (fun j => if j = 7 then u9.heap.size else α j) _ (fun j hj => if_neg (fun e => hj (by rw [e]))) rfl (step_alloc (st9) hL hcl rfl rfl (by decide) _ e1 hG)
    · intro L9 α a9 u9 K9 hL hcl hA hG hS h0 h1 hK
      replace hL : L9 8 = false := hL
      have q11 : a9.tmps[11]? = some (.pointer (some ⟨α 7, 0, none⟩)) := hS 7 11 (by decide) rfl (by show 11 < 88; decide)
      have s11 := Rega.eval_of q11
      have q42 : a9.tmps[42]? = some (.agg #[.nilIface, .int .i32 0]) := hS 5 42 (by decide) rfl (by show 42 < 88; decide)
      have s42 := Rega.eval_of q42
      have e0 : R9 L9 α 7 = row (α 7) 29 #[.nilIface, .int .i32 0] := by
        show rLft4T7 nd2 nd3 nd4 nd5 B16 nd19 L9 α = _
        unfold rLft4T7
        rw [if_neg (by rw [hL]; decide)]
      have hr := hG.rowAt 7 (act_new 7 rfl (hA 7 (by decide))) e0
      have c0 : u9.cell? ⟨α 7, 0, none⟩ = some (.nilIface) := hr.cell rfl
      have y0 : u9.frozen? ⟨α 7, 0, none⟩ = false := hr.free (0)
      have c1 : u9.cell? ⟨α 7, 1, none⟩ = some (.int .i32 0) := hr.cell rfl
      have y1 : u9.frozen? ⟨α 7, 1, none⟩ = false := hr.free (1)
      clear hr
      have E0 := Lib.hid e0
      clear e0
      go_simp
      have e1 : R9 (Rega.ran L9 8) α 7 = row (α 7) 29 #[.nilIface, .int .i32 0] := by
        show rLft4T7 nd2 nd3 nd4 nd5 B16 nd19 (Rega.ran L9 8) α = _
        unfold rLft4T7
        rw [if_pos (show Rega.ran L9 8 8 = true from rfl)]
      exact hK _ α _ (fun _ _ => rfl) rfl (step_sets (st9) hL hcl rfl 7 rfl (act_new 7 rfl (hA 7 (by decide))) E0.out (0) [.nilIface, .int .i32 0] (e1.trans rfl) hG)
    · intro L9 α a9 u9 K9 hL hcl hA hG hS h0 h1 hK
      replace hL : L9 9 = false := hL
      have q43 : a9.tmps[43]? = some (.bool false) := hS 6 43 (by decide) rfl (by show 43 < 88; decide)
      have s43 := Rega.eval_of q43
      go_simp
      exact hK _ α _ (fun _ _ => rfl) rfl (step_same (st9) hL hcl rfl rfl hG)
  clear st9
  intro α u hG
  have e0 : R9 (fun k => decide (k < 10)) α 999 = row (B16) 29 #[.iface 56 (.pointer (some ⟨nd19, 0, none⟩)), .int .i32 0] := rfl
  have e1 : R9 (fun k => decide (k < 10)) α 1999 = row (nd2) 182 (newPar nd3 nd4 nd5) := rfl
  have e2 : R9 (fun k => decide (k < 10)) α 7 = row (α 7) 29 #[.nilIface, .int .i32 0] := by
    show rLft4T7 nd2 nd3 nd4 nd5 B16 nd19 (fun k => decide (k < 10)) α = _
    unfold rLft4T7
    rw [if_pos (by decide)]
  have hO : Own w0 u [row (B16) 29 #[.iface 56 (.pointer (some ⟨nd19, 0, none⟩)), .int .i32 0], row (nd2) 182 (newPar nd3 nd4 nd5), row (α 7) 29 #[.nilIface, .int .i32 0]] X9_22 := (hG.list [999, 1999, 7] (by decide) (act_all (by decide))).conv (by
    show [R9 (fun k => decide (k < 10)) α 999, R9 (fun k => decide (k < 10)) α 1999, R9 (fun k => decide (k < 10)) α 7] = _
    rw [e0, e1, e2])
  clear hG e0 e1 e2 R9
  generalize hfr : Rega.frameAt _ _ _ _ _ = fr
  have hdf : fr = ⟨#[.int .i64 (mm : Int), .int .i64 (tt : Int), .bool false, .bool true, undef, undef, undef, undef, .bool false, .pointer (some ⟨nd2, 0, none⟩), .pointer (some ⟨B16, 0, none⟩), .pointer (some ⟨α 7, 0, none⟩), .bool false, undef, undef, undef, .int .i64 (mm : Int), .bool (decide ((mm : Int) < 0)), .bool (decide ((mm : Int) < 0)), .int .i64 (mm : Int), .bool (decide (4096 < (mm : Int))), .bool (decide ((mm : Int) < 0) || decide (4096 < (mm : Int))), .bool (decide ((mm : Int) < 0) || decide (4096 < (mm : Int))), .int .i64 (tt : Int), .bool (decide ((tt : Int) < 0)), .bool (decide ((mm : Int) < 0) || decide (4096 < (mm : Int)) || decide ((tt : Int) < 0)), .bool (decide ((mm : Int) < 0) || decide (4096 < (mm : Int)) || decide ((tt : Int) < 0)), .int .i64 (tt : Int), .bool (decide (4096 < (tt : Int))), .bool (decide ((mm : Int) < 0) || decide (4096 < (mm : Int)) || decide ((tt : Int) < 0) || decide (4096 < (tt : Int))), .bool false, .pointer (some ⟨nd2, 0, none⟩), .int .i64 (mm : Int), .int .i64 (tt : Int), .agg #[.iface 205 (.pointer (some ⟨nd14, 0, none⟩)), .int .i32 0], .bool true, .agg #[.iface 56 (.pointer (some ⟨nd19, 0, none⟩)), .int .i32 0], .tuple #[.agg #[.nilIface, .int .i32 0], .bool false], .pointer (some ⟨nd2, 0, none⟩), .agg #[.iface 56 (.pointer (some ⟨nd19, 0, none⟩)), .int .i32 0], .agg #[.iface 56 (.pointer (some ⟨α 2, 0, none⟩)), .int .i32 0], .tuple #[.agg #[.nilIface, .int .i32 0], .bool false], .agg #[.nilIface, .int .i32 0], .bool false, undef, undef, undef, undef, undef, undef, undef, undef, undef, undef, undef, undef, undef, undef, undef, undef, undef, undef, undef, undef, undef, undef, undef, undef, undef, undef, undef, undef, undef, undef, undef, undef, undef, undef, undef, undef, undef, undef, undef, undef, undef, undef, undef, undef], []⟩ := by rw [← hfr]; kernel_rfl
  clear hfr
  subst hdf
  generalize α 2 = nd23 at hO ⊢
  generalize α 7 = nd24 at hO ⊢
  clear α
  subst hX9_22
  have hN : Own w0 u [row (B16) 29 #[.iface 56 (.pointer (some ⟨nd19, 0, none⟩)), .int .i32 0], row (nd2) 182 (newPar nd3 nd4 nd5), row (nd24) 29 #[.nilIface, .int .i32 0], row (nd14) 207 #[.slice (some ⟨nd7, 0, none⟩) (mm + 1 + tt) (mm + 1 + tt + nd8), .int .i32 0, .int .i32 0, .bool false, .bool false], row (nd7) 29 (full exZ nd9 nd8), row (nd10) 204 #[.slice (some ⟨nd11, 0, none⟩) 1 (1 + nd12), .int .i32 0, .int .i32 0, .bool false, .bool false], row (nd11) 52 (full prZ [.pointer none, .nilIface, .int .i32 0, .iface 56 (.pointer (some ⟨nd13, 0, none⟩)), .int .i32 0, .nilIface, .int .i32 0, .slice none 0 0, .int .i32 0, .int .i32 0, .int .u8 5, .int .u8 0] nd12), row (nd3) 201 (full symZ (symL ([syk ⟨#[]⟩ 0])) 0), row (nd4) 194 #[.pointer none, .pointer none, .slice none 0 0, .map none, .slice none 0 0, .slice none 0 0, .int .i32 0, .int .i32 0, .int .u32 0, .int .u32 0, .bool false, .bool false, .bool false, .bool false, .int .u8 0, .int .u8 6], ((nd5, .map #[] 0) : Rw)] X := hO.back HL.out HX.out [1, 2, 3, 4, 6, 7, 8] (by decide) (by decide)
  clear hO HL HX
  have hO := hN
  clear hN
  obtain ⟨c9_0_0, c9_0_1, lt9_0, y9_0, -⟩ := hO.k2 0 rfl
  obtain ⟨c9_2_0, c9_2_1, lt9_2, y9_2, -⟩ := hO.k2 2 rfl
  obtain ⟨c9_3_0, c9_3_1, c9_3_2, c9_3_3, c9_3_4, lt9_3, y9_3, -⟩ := hO.k5 3 rfl
  obtain ⟨c9_5_0, c9_5_1, c9_5_2, c9_5_3, c9_5_4, lt9_5, y9_5, -⟩ := hO.k5 5 rfl
  have HO := Lib.hid hO
  clear hO
  go_wp2_with (first | (with_reducible refine Own.stay (fn := Tryz.f3) ?_) | fail)
  try with_reducible refine Own.Stay.mk ?_
  have hO := HO.out
  clear HO c9_0_0 c9_0_1 lt9_0 y9_0 c9_2_0 c9_2_1 lt9_2 y9_2 c9_3_0 c9_3_1 c9_3_2 c9_3_3 c9_3_4 lt9_3 y9_3 c9_5_0 c9_5_1 c9_5_2 c9_5_3 c9_5_4 lt9_5 y9_5
  have hL := hO.apart
  have hX := hO.apartX
  have HL := Lib.hid hL
  have HX := Lib.hid hX
  clear hL hX
  have hP9 := hO.pick [1] (by decide)
  have T9 := symCt1 nd2 (newPar nd3 nd4 nd5) nd3 _ _ _ hP9 (newPar_106 _ _ _)
  refine Calls.mono T9 ?_
  clear hP9 T9
  rintro e uw25 ⟨rfl, hQ⟩
  have hN : Own w0 uw25 [row (nd2) 182 (newPar nd3 nd4 nd5), row (B16) 29 #[.iface 56 (.pointer (some ⟨nd19, 0, none⟩)), .int .i32 0], row (nd24) 29 #[.nilIface, .int .i32 0], row (nd14) 207 #[.slice (some ⟨nd7, 0, none⟩) (mm + 1 + tt) (mm + 1 + tt + nd8), .int .i32 0, .int .i32 0, .bool false, .bool false], row (nd7) 29 (full exZ nd9 nd8), row (nd10) 204 #[.slice (some ⟨nd11, 0, none⟩) 1 (1 + nd12), .int .i32 0, .int .i32 0, .bool false, .bool false], row (nd11) 52 (full prZ [.pointer none, .nilIface, .int .i32 0, .iface 56 (.pointer (some ⟨nd13, 0, none⟩)), .int .i32 0, .nilIface, .int .i32 0, .slice none 0 0, .int .i32 0, .int .i32 0, .int .u8 5, .int .u8 0] nd12), row (nd3) 201 (full symZ (symL ([syk ⟨#[]⟩ 0])) 0), row (nd4) 194 #[.pointer none, .pointer none, .slice none 0 0, .map none, .slice none 0 0, .slice none 0 0, .int .i32 0, .int .i32 0, .int .u32 0, .int .u32 0, .bool false, .bool false, .bool false, .bool false, .int .u8 0, .int .u8 6], ((nd5, .map #[] 0) : Rw)] X := hQ.back HL.out HX.out [0, 2, 3, 4, 5, 6, 7, 8, 9] (by decide) (by decide)
  clear hQ HL HX hO
  have hO := hN
  clear hN
  obtain ⟨c9_1_0, c9_1_1, lt9_1, y9_1, -⟩ := hO.k2 1 rfl
  obtain ⟨c9_2_0, c9_2_1, lt9_2, y9_2, -⟩ := hO.k2 2 rfl
  obtain ⟨c9_3_0, c9_3_1, c9_3_2, c9_3_3, c9_3_4, lt9_3, y9_3, -⟩ := hO.k5 3 rfl
  obtain ⟨c9_5_0, c9_5_1, c9_5_2, c9_5_3, c9_5_4, lt9_5, y9_5, -⟩ := hO.k5 5 rfl
  have HO := Lib.hid hO
  clear hO
  go_wp2_with (first | (with_reducible refine Own.stay (fn := Tryz.f3) ?_) | fail)
  try with_reducible refine Own.Stay.mk ?_
  have hO := HO.out
  clear HO c9_1_0 c9_1_1 lt9_1 y9_1 c9_2_0 c9_2_1 lt9_2 y9_2 c9_3_0 c9_3_1 c9_3_2 c9_3_3 c9_3_4 lt9_3 y9_3 c9_5_0 c9_5_1 c9_5_2 c9_5_3 c9_5_4 lt9_5 y9_5
  have hL := hO.apart
  have hX := hO.apartX
  have HL := Lib.hid hL
  have HX := Lib.hid hX
  clear hL hX
  have hP9 := hO.pick [0] (by decide)
  have T9 := tmpCt0 nd2 (newPar nd3 nd4 nd5) _ _ _ hP9 (newPar_199 _ _ _)
  refine Calls.mono T9 ?_
  clear hP9 T9
  rintro e uw26 ⟨rfl, hQ⟩
  have hN : Own w0 uw26 [row (nd2) 182 (newPar nd3 nd4 nd5), row (B16) 29 #[.iface 56 (.pointer (some ⟨nd19, 0, none⟩)), .int .i32 0], row (nd24) 29 #[.nilIface, .int .i32 0], row (nd14) 207 #[.slice (some ⟨nd7, 0, none⟩) (mm + 1 + tt) (mm + 1 + tt + nd8), .int .i32 0, .int .i32 0, .bool false, .bool false], row (nd7) 29 (full exZ nd9 nd8), row (nd10) 204 #[.slice (some ⟨nd11, 0, none⟩) 1 (1 + nd12), .int .i32 0, .int .i32 0, .bool false, .bool false], row (nd11) 52 (full prZ [.pointer none, .nilIface, .int .i32 0, .iface 56 (.pointer (some ⟨nd13, 0, none⟩)), .int .i32 0, .nilIface, .int .i32 0, .slice none 0 0, .int .i32 0, .int .i32 0, .int .u8 5, .int .u8 0] nd12), row (nd3) 201 (full symZ (symL ([syk ⟨#[]⟩ 0])) 0), row (nd4) 194 #[.pointer none, .pointer none, .slice none 0 0, .map none, .slice none 0 0, .slice none 0 0, .int .i32 0, .int .i32 0, .int .u32 0, .int .u32 0, .bool false, .bool false, .bool false, .bool false, .int .u8 0, .int .u8 6], ((nd5, .map #[] 0) : Rw)] X := hQ.back HL.out HX.out [1, 2, 3, 4, 5, 6, 7, 8, 9] (by decide) (by decide)
  clear hQ HL HX hO
  have hO := hN
  clear hN
  obtain ⟨c9_1_0, c9_1_1, lt9_1, y9_1, -⟩ := hO.k2 1 rfl
  obtain ⟨c9_2_0, c9_2_1, lt9_2, y9_2, -⟩ := hO.k2 2 rfl
  obtain ⟨c9_3_0, c9_3_1, c9_3_2, c9_3_3, c9_3_4, lt9_3, y9_3, -⟩ := hO.k5 3 rfl
  obtain ⟨c9_5_0, c9_5_1, c9_5_2, c9_5_3, c9_5_4, lt9_5, y9_5, -⟩ := hO.k5 5 rfl
  have HO := Lib.hid hO
  clear hO
  go_wp2_with (first | (with_reducible refine Own.stay (fn := Tryz.f3) ?_) | fail)
  try with_reducible refine Own.Stay.mk ?_
  have hO := HO.out
  clear HO c9_1_0 c9_1_1 lt9_1 y9_1 c9_2_0 c9_2_1 lt9_2 y9_2 c9_3_0 c9_3_1 c9_3_2 c9_3_3 c9_3_4 lt9_3 y9_3 c9_5_0 c9_5_1 c9_5_2 c9_5_3 c9_5_4 lt9_5 y9_5
  refine bodyPost_ret (v := .bool true) ?_ rfl ⟨rfl, hO.sub [] (by decide)⟩
  simp [results, Tryz.results3, go_sem]
end Go.Proofs.YtghofdhhhbbaaaaGreatDoor.Use
namespace Go.Proofs.YtghofdhhhbbaaaaGreatDoor.Use
open Go.ChangeShapes Go.WideShapes Go.ChangeAt Go.RowKit Go.Sort Own
set_option linter.unusedVariables false
noncomputable def rLtf3E (mm : Nat) (tt : Nat) (nd2 : Nat) (nd3 : Nat) (nd4 : Nat) (nd5 : Nat) (nd7 : Nat) (nd8 : Nat) (nd9 : List Value) (nd10 : Nat) (nd11 : Nat) (nd12 : Nat) (nd13 : Nat) (nd14 : Nat) (B16 : Nat) : Nat → Rega.Atoms → Value
  | 0, α => .pointer (some ⟨nd2, 0, none⟩)
  | 1, α => .agg #[.iface 205 (.pointer (some ⟨nd14, 0, none⟩)), .int .i32 0]
  | 2, α => .agg #[.iface 56 (.pointer (some ⟨α 2, 0, none⟩)), .int .i32 0]
  | 3, α => .tuple #[.agg #[.iface 241 (.pointer (some ⟨α 6003, 0, none⟩)), .int .i32 0], .bool true]
  | 4, α => .tuple #[.agg #[.iface 241 (.pointer (some ⟨α 6003, 0, none⟩)), .int .i32 0], .bool true]
  | 5, α => .agg #[.iface 241 (.pointer (some ⟨α 6003, 0, none⟩)), .int .i32 0]
  | 6, α => .bool true
  | 7, α => .pointer (some ⟨α 7, 0, none⟩)
  | 8, α => undef
  | 9, α => .bool true
  | _, _ => undef
noncomputable def rLtf3Anc : Nat → List Nat
  | 3 => [0, 1, 2]
  | 4 => [0, 1, 2, 3]
  | 5 => [0, 1, 2, 3, 4]
  | 6 => [0, 1, 2, 3, 4]
  | 8 => [0, 1, 2, 3, 4, 5, 7]
  | 9 => [0, 1, 2, 3, 4, 5, 6, 7, 8]
  | _ => []
noncomputable def rLtf3Trn : Nat → List Nat
  | 3 => [2999, 5999, 6999, 8999, 7999]
  | 8 => [7]
  | _ => []
noncomputable def rLtf3Cnt : List (Nat × Nat) := [(7, 1)]
noncomputable def rLtf3T2999 (mm : Nat) (tt : Nat) (nd2 : Nat) (nd3 : Nat) (nd4 : Nat) (nd5 : Nat) (nd7 : Nat) (nd8 : Nat) (nd9 : List Value) (nd10 : Nat) (nd11 : Nat) (nd12 : Nat) (nd13 : Nat) (nd14 : Nat) (B16 : Nat) (L9 : Nat → Bool) (α : Rega.Atoms) : Rw := if L9 3 = true then row (nd7) 29 (full exZ (iW (xt tt) nd9 mm (α 7003) (α 8003)) nd8) else row (nd7) 29 (full exZ nd9 nd8)
noncomputable def rLtf3T5999 (mm : Nat) (tt : Nat) (nd2 : Nat) (nd3 : Nat) (nd4 : Nat) (nd5 : Nat) (nd7 : Nat) (nd8 : Nat) (nd9 : List Value) (nd10 : Nat) (nd11 : Nat) (nd12 : Nat) (nd13 : Nat) (nd14 : Nat) (B16 : Nat) (L9 : Nat → Bool) (α : Rega.Atoms) : Rw := if L9 3 = true then row (nd2) 182 (pcW ((newPar nd3 nd4 nd5).setIfInBounds 23 (.int .u64 35184372088832)) 0 1 (xt tt) (α 3) (α 1003) (α 4003) (α 5003)) else row (nd2) 182 ((newPar nd3 nd4 nd5).setIfInBounds 23 (.int .u64 35184372088832))
noncomputable def rLtf3T6999 (mm : Nat) (tt : Nat) (nd2 : Nat) (nd3 : Nat) (nd4 : Nat) (nd5 : Nat) (nd7 : Nat) (nd8 : Nat) (nd9 : List Value) (nd10 : Nat) (nd11 : Nat) (nd12 : Nat) (nd13 : Nat) (nd14 : Nat) (B16 : Nat) (L9 : Nat → Bool) (α : Rega.Atoms) : Rw := if L9 3 = true then row (α 3) 201 (full symZ (symL (stW (xt tt) 0 1 ([syk ⟨#[]⟩ 0]))) (α 1003)) else row (nd3) 201 (full symZ (symL ([syk ⟨#[]⟩ 0])) 0)
noncomputable def rLtf3T7999 (mm : Nat) (tt : Nat) (nd2 : Nat) (nd3 : Nat) (nd4 : Nat) (nd5 : Nat) (nd7 : Nat) (nd8 : Nat) (nd9 : List Value) (nd10 : Nat) (nd11 : Nat) (nd12 : Nat) (nd13 : Nat) (nd14 : Nat) (B16 : Nat) (L9 : Nat → Bool) (α : Rega.Atoms) : Rw := if L9 3 = true then row (nd4) 194 (#[.pointer none, .pointer none, .slice none 0 0, .map none, .slice none 0 0, .slice none 0 0, .int .i32 0, .int .i32 0, .int .u32 0, .int .u32 0, .bool false, .bool false, .bool false, .bool false, .int .u8 0, .int .u8 6].setIfInBounds 5 (.slice (some ⟨α 2003, 0, none⟩) (2 + (xt tt)) (2 + (xt tt) + (α 3003)))) else row (nd4) 194 #[.pointer none, .pointer none, .slice none 0 0, .map none, .slice none 0 0, .slice none 0 0, .int .i32 0, .int .i32 0, .int .u32 0, .int .u32 0, .bool false, .bool false, .bool false, .bool false, .int .u8 0, .int .u8 6]
noncomputable def rLtf3T8999 (mm : Nat) (tt : Nat) (nd2 : Nat) (nd3 : Nat) (nd4 : Nat) (nd5 : Nat) (nd7 : Nat) (nd8 : Nat) (nd9 : List Value) (nd10 : Nat) (nd11 : Nat) (nd12 : Nat) (nd13 : Nat) (nd14 : Nat) (B16 : Nat) (L9 : Nat → Bool) (α : Rega.Atoms) : Rw := if L9 3 = true then ((nd5, .map (#[].push ⟨.string ⟨#[95, 95, 111, 98, 106, 82, 101, 115, 116]⟩, .agg #[.int .i32 0, .int .u32 0, .int .u32 ((1 + 1 + (xt tt) : Nat) : Int)], 0⟩) (0 + 1)) : Rw) else ((nd5, .map #[] 0) : Rw)
noncomputable def rLtf3T7 (mm : Nat) (tt : Nat) (nd2 : Nat) (nd3 : Nat) (nd4 : Nat) (nd5 : Nat) (nd7 : Nat) (nd8 : Nat) (nd9 : List Value) (nd10 : Nat) (nd11 : Nat) (nd12 : Nat) (nd13 : Nat) (nd14 : Nat) (B16 : Nat) (L9 : Nat → Bool) (α : Rega.Atoms) : Rw := if L9 8 = true then row (α 7) 29 #[.iface 241 (.pointer (some ⟨α 6003, 0, none⟩)), .int .i32 0] else row (α 7) 29 #[.nilIface, .int .i32 0]
noncomputable def rLtf3R (mm : Nat) (tt : Nat) (nd2 : Nat) (nd3 : Nat) (nd4 : Nat) (nd5 : Nat) (nd7 : Nat) (nd8 : Nat) (nd9 : List Value) (nd10 : Nat) (nd11 : Nat) (nd12 : Nat) (nd13 : Nat) (nd14 : Nat) (B16 : Nat) (L9 : Nat → Bool) (α : Rega.Atoms) (ix9 : Nat) : Rw := if ix9 = 999 then row (B16) 29 #[.iface 205 (.pointer (some ⟨nd14, 0, none⟩)), .int .i32 0] else if ix9 = 1999 then row (nd14) 207 #[.slice (some ⟨nd7, 0, none⟩) (mm + 1 + tt) (mm + 1 + tt + nd8), .int .i32 0, .int .i32 0, .bool false, .bool false] else if ix9 = 2999 then rLtf3T2999 mm tt nd2 nd3 nd4 nd5 nd7 nd8 nd9 nd10 nd11 nd12 nd13 nd14 B16 L9 α else if ix9 = 3999 then row (nd10) 204 #[.slice (some ⟨nd11, 0, none⟩) 1 (1 + nd12), .int .i32 0, .int .i32 0, .bool false, .bool false] else if ix9 = 4999 then row (nd11) 52 (full prZ [.pointer none, .nilIface, .int .i32 0, .iface 56 (.pointer (some ⟨nd13, 0, none⟩)), .int .i32 0, .nilIface, .int .i32 0, .slice none 0 0, .int .i32 0, .int .i32 0, .int .u8 5, .int .u8 0] nd12) else if ix9 = 5999 then rLtf3T5999 mm tt nd2 nd3 nd4 nd5 nd7 nd8 nd9 nd10 nd11 nd12 nd13 nd14 B16 L9 α else if ix9 = 6999 then rLtf3T6999 mm tt nd2 nd3 nd4 nd5 nd7 nd8 nd9 nd10 nd11 nd12 nd13 nd14 B16 L9 α else if ix9 = 7999 then rLtf3T7999 mm tt nd2 nd3 nd4 nd5 nd7 nd8 nd9 nd10 nd11 nd12 nd13 nd14 B16 L9 α else if ix9 = 8999 then rLtf3T8999 mm tt nd2 nd3 nd4 nd5 nd7 nd8 nd9 nd10 nd11 nd12 nd13 nd14 B16 L9 α else if ix9 = 7 then rLtf3T7 mm tt nd2 nd3 nd4 nd5 nd7 nd8 nd9 nd10 nd11 nd12 nd13 nd14 B16 L9 α else (0, .map #[] 0)
theorem rLtf3_he (mm : Nat) (tt : Nat) (nd2 : Nat) (nd3 : Nat) (nd4 : Nat) (nd5 : Nat) (nd7 : Nat) (nd8 : Nat) (nd9 : List Value) (nd10 : Nat) (nd11 : Nat) (nd12 : Nat) (nd13 : Nat) (nd14 : Nat) (B16 : Nat) : ∀ kk α α', (∀ j, (j % 1000 = kk ∨ j % 1000 ∈ rLtf3Anc kk) → α j = α' j) → rLtf3E mm tt nd2 nd3 nd4 nd5 nd7 nd8 nd9 nd10 nd11 nd12 nd13 nd14 B16 kk α = rLtf3E mm tt nd2 nd3 nd4 nd5 nd7 nd8 nd9 nd10 nd11 nd12 nd13 nd14 B16 kk α' := by
  intro kk α α' h
  match kk with
  | 0 => rfl
  | 1 => rfl
  | 2 => simp only [rLtf3E, h 2 (Or.inl rfl)]
  | 3 => simp only [rLtf3E, h 6003 (Or.inl rfl)]
  | 4 => simp only [rLtf3E, h 6003 (Or.inr (by decide))]
  | 5 => simp only [rLtf3E, h 6003 (Or.inr (by decide))]
  | 6 => rfl
  | 7 => simp only [rLtf3E, h 7 (Or.inl rfl)]
  | 8 => rfl
  | 9 => rfl
  | n + 10 => rfl
theorem rLtf3_st (mm : Nat) (tt : Nat) (nd2 : Nat) (nd3 : Nat) (nd4 : Nat) (nd5 : Nat) (nd7 : Nat) (nd8 : Nat) (nd9 : List Value) (nd10 : Nat) (nd11 : Nat) (nd12 : Nat) (nd13 : Nat) (nd14 : Nat) (B16 : Nat) : Stable rLtf3Cnt 9 rLtf3Anc rLtf3Trn (rLtf3R mm tt nd2 nd3 nd4 nd5 nd7 nd8 nd9 nd10 nd11 nd12 nd13 nd14 B16) := by
  intro k9 L9 α α' ix9 hk hcl hα hact ht
  have hp := act_places hact
  replace hp : ix9 ∈ [999, 1999, 2999, 3999, 4999, 5999, 6999, 7999, 8999, 7] := hp
  simp only [List.mem_cons, List.not_mem_nil, or_false] at hp
  rcases hp with rfl | rfl | rfl | rfl | rfl | rfl | rfl | rfl | rfl | rfl
  · rfl
  · rfl
  · show rLtf3T2999 mm tt nd2 nd3 nd4 nd5 nd7 nd8 nd9 nd10 nd11 nd12 nd13 nd14 B16 (Rega.ran L9 k9) α' = rLtf3T2999 mm tt nd2 nd3 nd4 nd5 nd7 nd8 nd9 nd10 nd11 nd12 nd13 nd14 B16 L9 α
    unfold rLtf3T2999
    have n3 : 3 ≠ k9 := fun e => ht (by rw [← e]; decide)
    rw [ran_ne n3]
    by_cases e3 : L9 3 = true
    · first | rw [if_pos e3, if_pos e3] | rw [if_pos e3]
      try simp only [hα 7003 (ne_ran hk e3), hα 8003 (ne_ran hk e3)]
    first | rw [if_neg e3, if_neg e3] | rw [if_neg e3]
  · rfl
  · rfl
  · show rLtf3T5999 mm tt nd2 nd3 nd4 nd5 nd7 nd8 nd9 nd10 nd11 nd12 nd13 nd14 B16 (Rega.ran L9 k9) α' = rLtf3T5999 mm tt nd2 nd3 nd4 nd5 nd7 nd8 nd9 nd10 nd11 nd12 nd13 nd14 B16 L9 α
    unfold rLtf3T5999
    have n3 : 3 ≠ k9 := fun e => ht (by rw [← e]; decide)
    rw [ran_ne n3]
    by_cases e3 : L9 3 = true
    · first | rw [if_pos e3, if_pos e3] | rw [if_pos e3]
      try simp only [hα 3 (ne_ran hk e3), hα 1003 (ne_ran hk e3), hα 4003 (ne_ran hk e3), hα 5003 (ne_ran hk e3)]
    first | rw [if_neg e3, if_neg e3] | rw [if_neg e3]
  · show rLtf3T6999 mm tt nd2 nd3 nd4 nd5 nd7 nd8 nd9 nd10 nd11 nd12 nd13 nd14 B16 (Rega.ran L9 k9) α' = rLtf3T6999 mm tt nd2 nd3 nd4 nd5 nd7 nd8 nd9 nd10 nd11 nd12 nd13 nd14 B16 L9 α
    unfold rLtf3T6999
    have n3 : 3 ≠ k9 := fun e => ht (by rw [← e]; decide)
    rw [ran_ne n3]
    by_cases e3 : L9 3 = true
    · first | rw [if_pos e3, if_pos e3] | rw [if_pos e3]
      try simp only [hα 3 (ne_ran hk e3), hα 1003 (ne_ran hk e3)]
    first | rw [if_neg e3, if_neg e3] | rw [if_neg e3]
  · show rLtf3T7999 mm tt nd2 nd3 nd4 nd5 nd7 nd8 nd9 nd10 nd11 nd12 nd13 nd14 B16 (Rega.ran L9 k9) α' = rLtf3T7999 mm tt nd2 nd3 nd4 nd5 nd7 nd8 nd9 nd10 nd11 nd12 nd13 nd14 B16 L9 α
    unfold rLtf3T7999
    have n3 : 3 ≠ k9 := fun e => ht (by rw [← e]; decide)
    rw [ran_ne n3]
    by_cases e3 : L9 3 = true
    · first | rw [if_pos e3, if_pos e3] | rw [if_pos e3]
      try simp only [hα 2003 (ne_ran hk e3), hα 3003 (ne_ran hk e3)]
    first | rw [if_neg e3, if_neg e3] | rw [if_neg e3]
  · show rLtf3T8999 mm tt nd2 nd3 nd4 nd5 nd7 nd8 nd9 nd10 nd11 nd12 nd13 nd14 B16 (Rega.ran L9 k9) α' = rLtf3T8999 mm tt nd2 nd3 nd4 nd5 nd7 nd8 nd9 nd10 nd11 nd12 nd13 nd14 B16 L9 α
    unfold rLtf3T8999
    have n3 : 3 ≠ k9 := fun e => ht (by rw [← e]; decide)
    rw [ran_ne n3]
  · have e0 : L9 7 = true := act_lt hact (by decide)
    show rLtf3T7 mm tt nd2 nd3 nd4 nd5 nd7 nd8 nd9 nd10 nd11 nd12 nd13 nd14 B16 (Rega.ran L9 k9) α' = rLtf3T7 mm tt nd2 nd3 nd4 nd5 nd7 nd8 nd9 nd10 nd11 nd12 nd13 nd14 B16 L9 α
    unfold rLtf3T7
    have n8 : 8 ≠ k9 := fun e => ht (by rw [← e]; decide)
    rw [ran_ne n8]
    by_cases e8 : L9 8 = true
    · first | rw [if_pos e8, if_pos e8] | rw [if_pos e8]
      try simp only [hα 7 (ne_ran hk (hcl 8 e8 7 (by decide))), hα 6003 (ne_ran hk (hcl 8 e8 3 (by decide)))]
    first | rw [if_neg e8, if_neg e8] | rw [if_neg e8]
    try simp only [hα 7 (ne_ran hk e0)]
def law8tfPost (mm tt : Nat) (w0 : World) (X : Nat → Obj → Prop) (e : Ending) (w' : World) : Prop :=
  e = .returned (.bool true) ∧ Own w0 w' [] X
set_option maxRecDepth 100000 in
set_option maxHeartbeats 4000000 in
theorem law8tf (mm tt : Nat) (w0 w : World) (X : Nat → Obj → Prop) (hO : Own w0 w [] X) (hm4 : mm ≤ 4096) (ht4 : tt ≤ 4096) (hg0 : w0.cell? ⟨0, 0, none⟩ = some (.int .u32 4294967295)) (hg1 : w0.cell? ⟨0, 1, none⟩ = some (.int .u32 4294967295)) :
    Calls Tryz.prog 3 #[.int .i64 (mm : Int), .int .i64 (tt : Int), .bool true, .bool false] w (law8tfPost mm tt w0 X) := by
  go_enter Tryz.func3, Tryz.ntmps3
  have hm8 : (mm : Int) ≤ 4096 := by omega
  have ht8 : (tt : Int) ≤ 4096 := by omega
  have hm7 : (0 : Int) ≤ (mm : Int) := by omega
  have ht7 : (0 : Int) ≤ (tt : Int) := by omega
  go_wp2_with (first | (with_reducible refine Own.stay (fn := Tryz.f3) ?_) | fail)
  try with_reducible refine Own.Stay.mk ?_
  have hL := hO.apart
  have hX := hO.apartX
  have HL := Lib.hid hL
  have HX := Lib.hid hX
  clear hL hX
  have hP9 := hO.pick [] (by decide)
  have T9 := zzp1  _ _ _ hP9 hg0 hg1
  refine Calls.mono T9 ?_
  clear hP9 T9
  rintro e uw1 ⟨nd2, nd3, nd4, nd5, rfl, hQ⟩
  have hN : Own w0 uw1 [row (nd2) 182 ((newPar nd3 nd4 nd5).setIfInBounds 23 (.int .u64 35184372088832)), row (nd3) 201 (full symZ (symL ([syk ⟨#[]⟩ 0])) 0), row (nd4) 194 #[.pointer none, .pointer none, .slice none 0 0, .map none, .slice none 0 0, .slice none 0 0, .int .i32 0, .int .i32 0, .int .u32 0, .int .u32 0, .bool false, .bool false, .bool false, .bool false, .int .u8 0, .int .u8 6], ((nd5, .map #[] 0) : Rw)] X := hQ.back HL.out HX.out [] (by decide) (by decide)
  clear hQ HL HX hO
  have hO := hN
  clear hN
  go_wp2_with (first | (with_reducible refine Own.stay (fn := Tryz.f3) ?_) | fail)
  try with_reducible refine Own.Stay.mk ?_
  have hL := hO.apart
  have hX := hO.apartX
  have HL := Lib.hid hL
  have HX := Lib.hid hX
  clear hL hX
  have hP9 := hO.pick [] (by decide)
  have T9 := arrPat mm tt _ _ _ hP9 hm4 ht4
  refine Calls.mono T9 ?_
  clear hP9 T9
  rintro e uw6 ⟨nd7, nd8, nd9, nd10, nd11, nd12, nd13, nd14, rfl, pr15, hQ⟩
  have hN : Own w0 uw6 [row (nd14) 207 #[.slice (some ⟨nd7, 0, none⟩) (mm + 1 + tt) (mm + 1 + tt + nd8), .int .i32 0, .int .i32 0, .bool false, .bool false], row (nd7) 29 (full exZ nd9 nd8), row (nd10) 204 #[.slice (some ⟨nd11, 0, none⟩) 1 (1 + nd12), .int .i32 0, .int .i32 0, .bool false, .bool false], row (nd11) 52 (full prZ [.pointer none, .nilIface, .int .i32 0, .iface 56 (.pointer (some ⟨nd13, 0, none⟩)), .int .i32 0, .nilIface, .int .i32 0, .slice none 0 0, .int .i32 0, .int .i32 0, .int .u8 5, .int .u8 0] nd12), row (nd2) 182 ((newPar nd3 nd4 nd5).setIfInBounds 23 (.int .u64 35184372088832)), row (nd3) 201 (full symZ (symL ([syk ⟨#[]⟩ 0])) 0), row (nd4) 194 #[.pointer none, .pointer none, .slice none 0 0, .map none, .slice none 0 0, .slice none 0 0, .int .i32 0, .int .i32 0, .int .u32 0, .int .u32 0, .bool false, .bool false, .bool false, .bool false, .int .u8 0, .int .u8 6], ((nd5, .map #[] 0) : Rw)] X := hQ.back HL.out HX.out [0, 1, 2, 3] (by decide) (by decide)
  clear hQ HL HX hO
  have hO := hN
  clear hN
  have HI := Lib.hid pr15
  clear pr15
  obtain ⟨c9_0_0, c9_0_1, c9_0_2, c9_0_3, c9_0_4, lt9_0, y9_0, -⟩ := hO.k5 0 rfl
  obtain ⟨c9_2_0, c9_2_1, c9_2_2, c9_2_3, c9_2_4, lt9_2, y9_2, -⟩ := hO.k5 2 rfl
  have HO := Lib.hid hO
  clear hO
  go_wp2_with (first | (with_reducible refine Own.stay (fn := Tryz.f3) ?_) | fail)
  try with_reducible refine Own.Stay.mk ?_
  have hO := HO.out
  clear HO c9_0_0 c9_0_1 c9_0_2 c9_0_3 c9_0_4 lt9_0 y9_0 c9_2_0 c9_2_1 c9_2_2 c9_2_3 c9_2_4 lt9_2 y9_2
  generalize hW : World.alloc _ _ = W17
  have hN : Own w0 W17 [row (uw6.heap.size) 29 #[.iface 205 (.pointer (some ⟨nd14, 0, none⟩)), .int .i32 0], row (nd14) 207 #[.slice (some ⟨nd7, 0, none⟩) (mm + 1 + tt) (mm + 1 + tt + nd8), .int .i32 0, .int .i32 0, .bool false, .bool false], row (nd7) 29 (full exZ nd9 nd8), row (nd10) 204 #[.slice (some ⟨nd11, 0, none⟩) 1 (1 + nd12), .int .i32 0, .int .i32 0, .bool false, .bool false], row (nd11) 52 (full prZ [.pointer none, .nilIface, .int .i32 0, .iface 56 (.pointer (some ⟨nd13, 0, none⟩)), .int .i32 0, .nilIface, .int .i32 0, .slice none 0 0, .int .i32 0, .int .i32 0, .int .u8 5, .int .u8 0] nd12), row (nd2) 182 ((newPar nd3 nd4 nd5).setIfInBounds 23 (.int .u64 35184372088832)), row (nd3) 201 (full symZ (symL ([syk ⟨#[]⟩ 0])) 0), row (nd4) 194 #[.pointer none, .pointer none, .slice none 0 0, .map none, .slice none 0 0, .slice none 0 0, .int .i32 0, .int .i32 0, .int .u32 0, .int .u32 0, .bool false, .bool false, .bool false, .bool false, .int .u8 0, .int .u8 6], ((nd5, .map #[] 0) : Rw)] X := by
    rw [← hW]
    exact (hO).alloc' _ (uw6.heap.size) (by simp)
  clear hW hO
  generalize uw6.heap.size = B16 at hN ⊢
  have hO := hN
  clear hN
  have st9 := rLtf3_st mm tt nd2 nd3 nd4 nd5 nd7 nd8 nd9 nd10 nd11 nd12 nd13 nd14 B16
  let R9 := rLtf3R mm tt nd2 nd3 nd4 nd5 nd7 nd8 nd9 nd10 nd11 nd12 nd13 nd14 B16
  refine wp_region_own (e := rLtf3E mm tt nd2 nd3 nd4 nd5 nd7 nd8 nd9 nd10 nd11 nd12 nd13 nd14 B16) (anc := rLtf3Anc) (G := (fun L9 α u9 => OwnF w0 u9 (act rLtf3Cnt 9 L9) (rLtf3R mm tt nd2 nd3 nd4 nd5 nd7 nd8 nd9 nd10 nd11 nd12 nd13 nd14 B16 L9 α) X)) (by kernel_rfl) (by kernel_rfl) (by kernel_rfl) (by kernel_rfl) (rLtf3_he mm tt nd2 nd3 nd4 nd5 nd7 nd8 nd9 nd10 nd11 nd12 nd13 nd14 B16) ?_ (RunsAll.all ?_) ?_
  · have hp : ∀ i, act rLtf3Cnt 9 (fun _ => false) i → i ∈ [999, 1999, 2999, 3999, 4999, 5999, 6999, 7999, 8999] := by
      intro i hi
      have h9 : i % 1000 = 999 := by
        by_cases h : i % 1000 = 999
        · exact h
        · exact absurd (act_lt hi h) (by simp)
      unfold act at hi
      rw [if_pos h9] at hi
      simp only [List.mem_cons, List.not_mem_nil, or_false]
      omega
    refine hO.drew.family (fun i hi => ?_) (fun i j hi hj hij => ?_)
    · have := hp i hi
      simp only [List.mem_cons, List.not_mem_nil, or_false] at this
      rcases this with rfl | rfl | rfl | rfl | rfl | rfl | rfl | rfl | rfl <;> rfl
    · have h1 := hp i hi
      have h2 := hp j hj
      simp only [List.mem_cons, List.not_mem_nil, or_false] at h1 h2
      omega
  · refine ⟨?_, ?_, ?_, ?_, ?_, ?_, ?_, ?_, ?_, ?_, trivial⟩
    · intro L9 α a9 u9 K9 hL hcl hA hG hS h0 h1 hK
      replace hL : L9 0 = false := hL
      have q9 : a9.tmps[9]? = some (.pointer (some ⟨nd2, 0, none⟩)) := (h0 9 (by kernel_rfl)).trans rfl
      have s9 := Rega.eval_of q9
      go_simp
      exact hK _ α _ (fun _ _ => rfl) rfl (step_same (st9) hL hcl rfl rfl hG)
    · intro L9 α a9 u9 K9 hL hcl hA hG hS h0 h1 hK
      replace hL : L9 1 = false := hL
      have q10 : a9.tmps[10]? = some (.pointer (some ⟨B16, 0, none⟩)) := (h0 10 (by kernel_rfl)).trans rfl
      have s10 := Rega.eval_of q10
      have e0 : R9 L9 α 999 = row (B16) 29 #[.iface 205 (.pointer (some ⟨nd14, 0, none⟩)), .int .i32 0] := rfl
      have hr := hG.rowAt 999 (act_base 999 rfl) e0
      have c0 : u9.cell? ⟨B16, 0, none⟩ = some (.iface 205 (.pointer (some ⟨nd14, 0, none⟩))) := hr.cell rfl
      have c1 : u9.cell? ⟨B16, 1, none⟩ = some (.int .i32 0) := hr.cell rfl
      clear hr e0
      go_simp
      exact hK _ α _ (fun _ _ => rfl) rfl (step_same (st9) hL hcl rfl rfl hG)
    · intro L9 α a9 u9 K9 hL hcl hA hG hS h0 h1 hK
      replace hL : L9 2 = false := hL
      go_simp
      have hM : ∀ i, i ∈ [] → act rLtf3Cnt 9 L9 i := by intro i hi; simp at hi
      have hP : Own w0 u9 [] _ := hG.pick [] (by decide) (by simp)
      clear hM
      refine Calls.mono (newId  _ _ _ hP ) ?_
      rintro e9 u1 ⟨b0, rfl, hQ⟩
      obtain ⟨α', hα'⟩ : ∃ α' : Rega.Atoms, α' = (fun j => if j = 2 then b0 else α j) := ⟨_, rfl⟩
      have hα : ∀ j, j % 1000 ≠ 2 → α' j = α j := fun j hj => by rw [hα']; simp only []; rw [if_neg (by omega)]
      have hb0 : α' 2 = b0 := by rw [hα']; rfl
      skip
      refine hK _ α' _ hα ?_ (step_call (st9) hL hcl hα [] [] (by decide) (by decide) (by decide) (M := _) ?_ hG hQ)
      · show _ = (.agg #[.iface 56 (.pointer (some ⟨α' 2, 0, none⟩)), .int .i32 0] : Value)
        simp only [hb0]
      · rfl
    · intro L9 α a9 u9 K9 hL hcl hA hG hS h0 h1 hK
      replace hL : L9 3 = false := hL
      have q38 : a9.tmps[38]? = some (.pointer (some ⟨nd2, 0, none⟩)) := hS 0 38 (by decide) rfl (by show 38 < 88; decide)
      have s38 := Rega.eval_of q38
      have q39 : a9.tmps[39]? = some (.agg #[.iface 205 (.pointer (some ⟨nd14, 0, none⟩)), .int .i32 0]) := hS 1 39 (by decide) rfl (by show 39 < 88; decide)
      have s39 := Rega.eval_of q39
      have q40 : a9.tmps[40]? = some (.agg #[.iface 56 (.pointer (some ⟨α 2, 0, none⟩)), .int .i32 0]) := hS 2 40 (by decide) rfl (by show 40 < 88; decide)
      have s40 := Rega.eval_of q40
      go_simp
      have e0 : R9 L9 α 1999 = row (nd14) 207 #[.slice (some ⟨nd7, 0, none⟩) (mm + 1 + tt) (mm + 1 + tt + nd8), .int .i32 0, .int .i32 0, .bool false, .bool false] := rfl
      have e1 : R9 L9 α 2999 = row (nd7) 29 (full exZ nd9 nd8) := by
        show rLtf3T2999 mm tt nd2 nd3 nd4 nd5 nd7 nd8 nd9 nd10 nd11 nd12 nd13 nd14 B16 L9 α = _
        unfold rLtf3T2999
        rw [if_neg (by rw [hL]; decide)]
      have e2 : R9 L9 α 3999 = row (nd10) 204 #[.slice (some ⟨nd11, 0, none⟩) 1 (1 + nd12), .int .i32 0, .int .i32 0, .bool false, .bool false] := rfl
      have e3 : R9 L9 α 4999 = row (nd11) 52 (full prZ [.pointer none, .nilIface, .int .i32 0, .iface 56 (.pointer (some ⟨nd13, 0, none⟩)), .int .i32 0, .nilIface, .int .i32 0, .slice none 0 0, .int .i32 0, .int .i32 0, .int .u8 5, .int .u8 0] nd12) := rfl
      have e4 : R9 L9 α 5999 = row (nd2) 182 ((newPar nd3 nd4 nd5).setIfInBounds 23 (.int .u64 35184372088832)) := by
        show rLtf3T5999 mm tt nd2 nd3 nd4 nd5 nd7 nd8 nd9 nd10 nd11 nd12 nd13 nd14 B16 L9 α = _
        unfold rLtf3T5999
        rw [if_neg (by rw [hL]; decide)]
      have e5 : R9 L9 α 6999 = row (nd3) 201 (full symZ (symL ([syk ⟨#[]⟩ 0])) 0) := by
        show rLtf3T6999 mm tt nd2 nd3 nd4 nd5 nd7 nd8 nd9 nd10 nd11 nd12 nd13 nd14 B16 L9 α = _
        unfold rLtf3T6999
        rw [if_neg (by rw [hL]; decide)]
      have e6 : R9 L9 α 8999 = ((nd5, .map #[] 0) : Rw) := by
        show rLtf3T8999 mm tt nd2 nd3 nd4 nd5 nd7 nd8 nd9 nd10 nd11 nd12 nd13 nd14 B16 L9 α = _
        unfold rLtf3T8999
        rw [if_neg (by rw [hL]; decide)]
      have e7 : R9 L9 α 7999 = row (nd4) 194 #[.pointer none, .pointer none, .slice none 0 0, .map none, .slice none 0 0, .slice none 0 0, .int .i32 0, .int .i32 0, .int .u32 0, .int .u32 0, .bool false, .bool false, .bool false, .bool false, .int .u8 0, .int .u8 6] := by
        show rLtf3T7999 mm tt nd2 nd3 nd4 nd5 nd7 nd8 nd9 nd10 nd11 nd12 nd13 nd14 B16 L9 α = _
        unfold rLtf3T7999
        rw [if_neg (by rw [hL]; decide)]
      have hM : ∀ i, i ∈ [1999, 2999, 3999, 4999, 5999, 6999, 8999, 7999] → act rLtf3Cnt 9 L9 i := by
        intro i hi
        simp only [List.mem_cons, List.not_mem_nil, or_false] at hi
        rcases hi with rfl | rfl | rfl | rfl | rfl | rfl | rfl | rfl
        · exact act_base 1999 rfl
        · exact act_base 2999 rfl
        · exact act_base 3999 rfl
        · exact act_base 4999 rfl
        · exact act_base 5999 rfl
        · exact act_base 6999 rfl
        · exact act_base 8999 rfl
        · exact act_base 7999 rfl
      have hP : Own w0 u9 [row (nd14) 207 #[.slice (some ⟨nd7, 0, none⟩) (mm + 1 + tt) (mm + 1 + tt + nd8), .int .i32 0, .int .i32 0, .bool false, .bool false], row (nd7) 29 (full exZ nd9 nd8), row (nd10) 204 #[.slice (some ⟨nd11, 0, none⟩) 1 (1 + nd12), .int .i32 0, .int .i32 0, .bool false, .bool false], row (nd11) 52 (full prZ [.pointer none, .nilIface, .int .i32 0, .iface 56 (.pointer (some ⟨nd13, 0, none⟩)), .int .i32 0, .nilIface, .int .i32 0, .slice none 0 0, .int .i32 0, .int .i32 0, .int .u8 5, .int .u8 0] nd12), row (nd2) 182 ((newPar nd3 nd4 nd5).setIfInBounds 23 (.int .u64 35184372088832)), row (nd3) 201 (full symZ (symL ([syk ⟨#[]⟩ 0])) 0), ((nd5, .map #[] 0) : Rw), row (nd4) 194 #[.pointer none, .pointer none, .slice none 0 0, .map none, .slice none 0 0, .slice none 0 0, .int .i32 0, .int .i32 0, .int .u32 0, .int .u32 0, .bool false, .bool false, .bool false, .bool false, .int .u8 0, .int .u8 6]] _ := (hG.pick [1999, 2999, 3999, 4999, 5999, 6999, 8999, 7999] (by decide) hM).conv (by
        show [R9 L9 α 1999, R9 L9 α 2999, R9 L9 α 3999, R9 L9 α 4999, R9 L9 α 5999, R9 L9 α 6999, R9 L9 α 8999, R9 L9 α 7999] = _
        rw [e0, e1, e2, e3, e4, e5, e6, e7])
      clear e0 e1 e2 e3 e4 e5 e6 e7 hM
      refine Calls.mono (dlowA nd2 ((newPar nd3 nd4 nd5).setIfInBounds 23 (.int .u64 35184372088832)) nd3 0 ([syk ⟨#[]⟩ 0]) 1 0 0 nd5 #[] 0 nd4 #[.pointer none, .pointer none, .slice none 0 0, .map none, .slice none 0 0, .slice none 0 0, .int .i32 0, .int .i32 0, .int .u32 0, .int .u32 0, .bool false, .bool false, .bool false, .bool false, .int .u8 0, .int .u8 6] nd14 nd7 nd8 nd9 mm tt nd10 nd11 nd12 nd13 0 (α 2) 0 _ _ _ hP (get_other (newPar_350 _ _ _) (by omega) _) (get_other (newPar_32 _ _ _) (by omega) _) (get_other (newPar_105 _ _ _) (by omega) _) (get_other (newPar_66 _ _ _) (by omega) _) (get_other (newPar_117 _ _ _) (by omega) _) (get_other (newPar_187 _ _ _) (by omega) _) (get_other (newPar_104 _ _ _) (by omega) _) rfl (get_other (newPar_287 _ _ _) (by omega) _) (get_other (newPar_199 _ _ _) (by omega) _) rfl (get_other (newPar_106 _ _ _) (by omega) _) rfl (by omega) (by omega) (ucb0 _ _) rfl hg0 hg1 (get_set (newPar_23 _ _ _) _) HI.out hm4 ht4) ?_
      rintro e9 u1 ⟨b0, b1, b2, b3, b4, b5, b6, b7, b8, rfl, hQ⟩
      obtain ⟨α', hα'⟩ : ∃ α' : Rega.Atoms, α' = (fun j => if j = 3 then b0 else if j = 1003 then b1 else if j = 2003 then b2 else if j = 3003 then b3 else if j = 4003 then b4 else if j = 5003 then b5 else if j = 6003 then b6 else if j = 7003 then b7 else if j = 8003 then b8 else α j) := ⟨_, rfl⟩
      have f0 : R9 (Rega.ran L9 3) α' 1999 = row (nd14) 207 #[.slice (some ⟨nd7, 0, none⟩) (mm + 1 + tt) (mm + 1 + tt + nd8), .int .i32 0, .int .i32 0, .bool false, .bool false] := rfl
      have f1 : R9 (Rega.ran L9 3) α' 2999 = row (nd7) 29 (full exZ (iW (xt tt) nd9 mm (α' 7003) (α' 8003)) nd8) := by
        show rLtf3T2999 mm tt nd2 nd3 nd4 nd5 nd7 nd8 nd9 nd10 nd11 nd12 nd13 nd14 B16 (Rega.ran L9 3) α' = _
        unfold rLtf3T2999
        rw [if_pos (show Rega.ran L9 3 3 = true from rfl)]
      have f2 : R9 (Rega.ran L9 3) α' 3999 = row (nd10) 204 #[.slice (some ⟨nd11, 0, none⟩) 1 (1 + nd12), .int .i32 0, .int .i32 0, .bool false, .bool false] := rfl
      have f3 : R9 (Rega.ran L9 3) α' 4999 = row (nd11) 52 (full prZ [.pointer none, .nilIface, .int .i32 0, .iface 56 (.pointer (some ⟨nd13, 0, none⟩)), .int .i32 0, .nilIface, .int .i32 0, .slice none 0 0, .int .i32 0, .int .i32 0, .int .u8 5, .int .u8 0] nd12) := rfl
      have f4 : R9 (Rega.ran L9 3) α' 5999 = row (nd2) 182 (pcW ((newPar nd3 nd4 nd5).setIfInBounds 23 (.int .u64 35184372088832)) 0 1 (xt tt) (α' 3) (α' 1003) (α' 4003) (α' 5003)) := by
        show rLtf3T5999 mm tt nd2 nd3 nd4 nd5 nd7 nd8 nd9 nd10 nd11 nd12 nd13 nd14 B16 (Rega.ran L9 3) α' = _
        unfold rLtf3T5999
        rw [if_pos (show Rega.ran L9 3 3 = true from rfl)]
      have f5 : R9 (Rega.ran L9 3) α' 6999 = row (α' 3) 201 (full symZ (symL (stW (xt tt) 0 1 ([syk ⟨#[]⟩ 0]))) (α' 1003)) := by
        show rLtf3T6999 mm tt nd2 nd3 nd4 nd5 nd7 nd8 nd9 nd10 nd11 nd12 nd13 nd14 B16 (Rega.ran L9 3) α' = _
        unfold rLtf3T6999
        rw [if_pos (show Rega.ran L9 3 3 = true from rfl)]
      have f6 : R9 (Rega.ran L9 3) α' 8999 = ((nd5, .map (#[].push ⟨.string ⟨#[95, 95, 111, 98, 106, 82, 101, 115, 116]⟩, .agg #[.int .i32 0, .int .u32 0, .int .u32 ((1 + 1 + (xt tt) : Nat) : Int)], 0⟩) (0 + 1)) : Rw) := by
        show rLtf3T8999 mm tt nd2 nd3 nd4 nd5 nd7 nd8 nd9 nd10 nd11 nd12 nd13 nd14 B16 (Rega.ran L9 3) α' = _
        unfold rLtf3T8999
        rw [if_pos (show Rega.ran L9 3 3 = true from rfl)]
      have f7 : R9 (Rega.ran L9 3) α' 7999 = row (nd4) 194 (#[.pointer none, .pointer none, .slice none 0 0, .map none, .slice none 0 0, .slice none 0 0, .int .i32 0, .int .i32 0, .int .u32 0, .int .u32 0, .bool false, .bool false, .bool false, .bool false, .int .u8 0, .int .u8 6].setIfInBounds 5 (.slice (some ⟨α' 2003, 0, none⟩) (2 + (xt tt)) (2 + (xt tt) + (α' 3003)))) := by
        show rLtf3T7999 mm tt nd2 nd3 nd4 nd5 nd7 nd8 nd9 nd10 nd11 nd12 nd13 nd14 B16 (Rega.ran L9 3) α' = _
        unfold rLtf3T7999
        rw [if_pos (show Rega.ran L9 3 3 = true from rfl)]
      have hα : ∀ j, j % 1000 ≠ 3 → α' j = α j := fun j hj => by rw [hα']; simp only []; rw [if_neg (by omega), if_neg (by omega), if_neg (by omega), if_neg (by omega), if_neg (by omega), if_neg (by omega), if_neg (by omega), if_neg (by omega), if_neg (by omega)]
      have hb0 : α' 3 = b0 := by rw [hα']; rfl
      have hb1 : α' 1003 = b1 := by rw [hα']; rfl
      have hb2 : α' 2003 = b2 := by rw [hα']; rfl
      have hb3 : α' 3003 = b3 := by rw [hα']; rfl
      have hb4 : α' 4003 = b4 := by rw [hα']; rfl
      have hb5 : α' 5003 = b5 := by rw [hα']; rfl
      have hb6 : α' 6003 = b6 := by rw [hα']; rfl
      have hb7 : α' 7003 = b7 := by rw [hα']; rfl
      have hb8 : α' 8003 = b8 := by rw [hα']; rfl
      skip
      refine hK _ α' _ hα ?_ (step_call (st9) hL hcl hα [1999, 2999, 3999, 4999, 5999, 6999, 8999, 7999] [1999, 2999, 3999, 4999, 5999, 6999, 8999, 7999] (by decide) (by decide) (by decide) (M := _) ?_ hG hQ)
      · show _ = (.tuple #[.agg #[.iface 241 (.pointer (some ⟨α' 6003, 0, none⟩)), .int .i32 0], .bool true] : Value)
        simp only [hb6]
      · show [R9 (Rega.ran L9 3) α' 1999, R9 (Rega.ran L9 3) α' 2999, R9 (Rega.ran L9 3) α' 3999, R9 (Rega.ran L9 3) α' 4999, R9 (Rega.ran L9 3) α' 5999, R9 (Rega.ran L9 3) α' 6999, R9 (Rega.ran L9 3) α' 8999, R9 (Rega.ran L9 3) α' 7999] = _
        rw [f0, f1, f2, f3, f4, f5, f6, f7]
        simp only [hb0, hb1, hb2, hb3, hb4, hb5, hb7, hb8]
        try rfl
    · intro L9 α a9 u9 K9 hL hcl hA hG hS h0 h1 hK
      replace hL : L9 4 = false := hL
      have q41 : a9.tmps[41]? = some (.tuple #[.agg #[.iface 241 (.pointer (some ⟨α 6003, 0, none⟩)), .int .i32 0], .bool true]) := hS 3 41 (by decide) rfl (by show 41 < 88; decide)
      have s41 := Rega.eval_of q41
      go_simp
      exact hK _ α _ (fun _ _ => rfl) rfl (step_same (st9) hL hcl rfl rfl hG)
    · intro L9 α a9 u9 K9 hL hcl hA hG hS h0 h1 hK
      replace hL : L9 5 = false := hL
      have q37 : a9.tmps[37]? = some (.tuple #[.agg #[.iface 241 (.pointer (some ⟨α 6003, 0, none⟩)), .int .i32 0], .bool true]) := hS 4 37 (by decide) rfl (by show 37 < 88; decide)
      have s37 := Rega.eval_of q37
      go_simp
      exact hK _ α _ (fun _ _ => rfl) rfl (step_same (st9) hL hcl rfl rfl hG)
    · intro L9 α a9 u9 K9 hL hcl hA hG hS h0 h1 hK
      replace hL : L9 6 = false := hL
      have q37 : a9.tmps[37]? = some (.tuple #[.agg #[.iface 241 (.pointer (some ⟨α 6003, 0, none⟩)), .int .i32 0], .bool true]) := hS 4 37 (by decide) rfl (by show 37 < 88; decide)
      have s37 := Rega.eval_of q37
      go_simp
      exact hK _ α _ (fun _ _ => rfl) rfl (step_same (st9) hL hcl rfl rfl hG)
    · intro L9 α a9 u9 K9 hL hcl hA hG hS h0 h1 hK
      replace hL : L9 7 = false := hL
      go_simp
      have e1 : R9 (Rega.ran L9 7) (fun j => if j = 7 then u9.heap.size else α j) 7 = row (u9.heap.size) 29 #[.nilIface, .int .i32 0] := by
        show rLtf3T7 mm tt nd2 nd3 nd4 nd5 nd7 nd8 nd9 nd10 nd11 nd12 nd13 nd14 B16 (Rega.ran L9 7) (fun j => if j = 7 then u9.heap.size else α j) = _
        unfold rLtf3T7
        exact ((if_neg (fun e => (fun e => by have := hcl 8 e 7 (by decide); rw [hL] at this; cases this) ((ran_ne (by decide)).symm.trans e))).trans rfl)
      exact hK _ (fun j => if j = 7 then u9.heap.size else α j) _ (fun j hj => if_neg (fun e => hj (by rw [e]))) rfl (step_alloc (st9) hL hcl rfl rfl (by decide) _ e1 hG)
    · intro L9 α a9 u9 K9 hL hcl hA hG hS h0 h1 hK
      replace hL : L9 8 = false := hL
      have q11 : a9.tmps[11]? = some (.pointer (some ⟨α 7, 0, none⟩)) := hS 7 11 (by decide) rfl (by show 11 < 88; decide)
      have s11 := Rega.eval_of q11
      have q42 : a9.tmps[42]? = some (.agg #[.iface 241 (.pointer (some ⟨α 6003, 0, none⟩)), .int .i32 0]) := hS 5 42 (by decide) rfl (by show 42 < 88; decide)
      have s42 := Rega.eval_of q42
      have e0 : R9 L9 α 7 = row (α 7) 29 #[.nilIface, .int .i32 0] := by
        show rLtf3T7 mm tt nd2 nd3 nd4 nd5 nd7 nd8 nd9 nd10 nd11 nd12 nd13 nd14 B16 L9 α = _
        unfold rLtf3T7
        rw [if_neg (by rw [hL]; decide)]
      have hr := hG.rowAt 7 (act_new 7 rfl (hA 7 (by decide))) e0
      have c0 : u9.cell? ⟨α 7, 0, none⟩ = some (.nilIface) := hr.cell rfl
      have y0 : u9.frozen? ⟨α 7, 0, none⟩ = false := hr.free (0)
      have c1 : u9.cell? ⟨α 7, 1, none⟩ = some (.int .i32 0) := hr.cell rfl
      have y1 : u9.frozen? ⟨α 7, 1, none⟩ = false := hr.free (1)
      clear hr
      have E0 := Lib.hid e0
      clear e0
      go_simp
      have e1 : R9 (Rega.ran L9 8) α 7 = row (α 7) 29 #[.iface 241 (.pointer (some ⟨α 6003, 0, none⟩)), .int .i32 0] := by
        show rLtf3T7 mm tt nd2 nd3 nd4 nd5 nd7 nd8 nd9 nd10 nd11 nd12 nd13 nd14 B16 (Rega.ran L9 8) α = _
        unfold rLtf3T7
        rw [if_pos (show Rega.ran L9 8 8 = true from rfl)]
      exact hK _ α _ (fun _ _ => rfl) rfl (step_sets (st9) hL hcl rfl 7 rfl (act_new 7 rfl (hA 7 (by decide))) E0.out (0) [.iface 241 (.pointer (some ⟨α 6003, 0, none⟩)), .int .i32 0] (e1.trans rfl) hG)
    · intro L9 α a9 u9 K9 hL hcl hA hG hS h0 h1 hK
      replace hL : L9 9 = false := hL
      have q43 : a9.tmps[43]? = some (.bool true) := hS 6 43 (by decide) rfl (by show 43 < 88; decide)
      have s43 := Rega.eval_of q43
      go_simp
      exact hK _ α _ (fun _ _ => rfl) rfl (step_same (st9) hL hcl rfl rfl hG)
  clear st9
  intro α u hG
  have e0 : R9 (fun k => decide (k < 10)) α 999 = row (B16) 29 #[.iface 205 (.pointer (some ⟨nd14, 0, none⟩)), .int .i32 0] := rfl
  have e1 : R9 (fun k => decide (k < 10)) α 1999 = row (nd14) 207 #[.slice (some ⟨nd7, 0, none⟩) (mm + 1 + tt) (mm + 1 + tt + nd8), .int .i32 0, .int .i32 0, .bool false, .bool false] := rfl
  have e2 : R9 (fun k => decide (k < 10)) α 2999 = row (nd7) 29 (full exZ (iW (xt tt) nd9 mm (α 7003) (α 8003)) nd8) := by
    show rLtf3T2999 mm tt nd2 nd3 nd4 nd5 nd7 nd8 nd9 nd10 nd11 nd12 nd13 nd14 B16 (fun k => decide (k < 10)) α = _
    unfold rLtf3T2999
    rw [if_pos (by decide)]
  have e3 : R9 (fun k => decide (k < 10)) α 3999 = row (nd10) 204 #[.slice (some ⟨nd11, 0, none⟩) 1 (1 + nd12), .int .i32 0, .int .i32 0, .bool false, .bool false] := rfl
  have e4 : R9 (fun k => decide (k < 10)) α 4999 = row (nd11) 52 (full prZ [.pointer none, .nilIface, .int .i32 0, .iface 56 (.pointer (some ⟨nd13, 0, none⟩)), .int .i32 0, .nilIface, .int .i32 0, .slice none 0 0, .int .i32 0, .int .i32 0, .int .u8 5, .int .u8 0] nd12) := rfl
  have e5 : R9 (fun k => decide (k < 10)) α 5999 = row (nd2) 182 (pcW ((newPar nd3 nd4 nd5).setIfInBounds 23 (.int .u64 35184372088832)) 0 1 (xt tt) (α 3) (α 1003) (α 4003) (α 5003)) := by
    show rLtf3T5999 mm tt nd2 nd3 nd4 nd5 nd7 nd8 nd9 nd10 nd11 nd12 nd13 nd14 B16 (fun k => decide (k < 10)) α = _
    unfold rLtf3T5999
    rw [if_pos (by decide)]
  have e6 : R9 (fun k => decide (k < 10)) α 6999 = row (α 3) 201 (full symZ (symL (stW (xt tt) 0 1 ([syk ⟨#[]⟩ 0]))) (α 1003)) := by
    show rLtf3T6999 mm tt nd2 nd3 nd4 nd5 nd7 nd8 nd9 nd10 nd11 nd12 nd13 nd14 B16 (fun k => decide (k < 10)) α = _
    unfold rLtf3T6999
    rw [if_pos (by decide)]
  have e7 : R9 (fun k => decide (k < 10)) α 7999 = row (nd4) 194 (#[.pointer none, .pointer none, .slice none 0 0, .map none, .slice none 0 0, .slice none 0 0, .int .i32 0, .int .i32 0, .int .u32 0, .int .u32 0, .bool false, .bool false, .bool false, .bool false, .int .u8 0, .int .u8 6].setIfInBounds 5 (.slice (some ⟨α 2003, 0, none⟩) (2 + (xt tt)) (2 + (xt tt) + (α 3003)))) := by
    show rLtf3T7999 mm tt nd2 nd3 nd4 nd5 nd7 nd8 nd9 nd10 nd11 nd12 nd13 nd14 B16 (fun k => decide (k < 10)) α = _
    unfold rLtf3T7999
    rw [if_pos (by decide)]
  have e8 : R9 (fun k => decide (k < 10)) α 8999 = ((nd5, .map (#[].push ⟨.string ⟨#[95, 95, 111, 98, 106, 82, 101, 115, 116]⟩, .agg #[.int .i32 0, .int .u32 0, .int .u32 ((1 + 1 + (xt tt) : Nat) : Int)], 0⟩) (0 + 1)) : Rw) := by
    show rLtf3T8999 mm tt nd2 nd3 nd4 nd5 nd7 nd8 nd9 nd10 nd11 nd12 nd13 nd14 B16 (fun k => decide (k < 10)) α = _
    unfold rLtf3T8999
    rw [if_pos (by decide)]
  have e9 : R9 (fun k => decide (k < 10)) α 7 = row (α 7) 29 #[.iface 241 (.pointer (some ⟨α 6003, 0, none⟩)), .int .i32 0] := by
    show rLtf3T7 mm tt nd2 nd3 nd4 nd5 nd7 nd8 nd9 nd10 nd11 nd12 nd13 nd14 B16 (fun k => decide (k < 10)) α = _
    unfold rLtf3T7
    rw [if_pos (by decide)]
  have hO : Own w0 u [row (B16) 29 #[.iface 205 (.pointer (some ⟨nd14, 0, none⟩)), .int .i32 0], row (nd14) 207 #[.slice (some ⟨nd7, 0, none⟩) (mm + 1 + tt) (mm + 1 + tt + nd8), .int .i32 0, .int .i32 0, .bool false, .bool false], row (nd7) 29 (full exZ (iW (xt tt) nd9 mm (α 7003) (α 8003)) nd8), row (nd10) 204 #[.slice (some ⟨nd11, 0, none⟩) 1 (1 + nd12), .int .i32 0, .int .i32 0, .bool false, .bool false], row (nd11) 52 (full prZ [.pointer none, .nilIface, .int .i32 0, .iface 56 (.pointer (some ⟨nd13, 0, none⟩)), .int .i32 0, .nilIface, .int .i32 0, .slice none 0 0, .int .i32 0, .int .i32 0, .int .u8 5, .int .u8 0] nd12), row (nd2) 182 (pcW ((newPar nd3 nd4 nd5).setIfInBounds 23 (.int .u64 35184372088832)) 0 1 (xt tt) (α 3) (α 1003) (α 4003) (α 5003)), row (α 3) 201 (full symZ (symL (stW (xt tt) 0 1 ([syk ⟨#[]⟩ 0]))) (α 1003)), row (nd4) 194 (#[.pointer none, .pointer none, .slice none 0 0, .map none, .slice none 0 0, .slice none 0 0, .int .i32 0, .int .i32 0, .int .u32 0, .int .u32 0, .bool false, .bool false, .bool false, .bool false, .int .u8 0, .int .u8 6].setIfInBounds 5 (.slice (some ⟨α 2003, 0, none⟩) (2 + (xt tt)) (2 + (xt tt) + (α 3003)))), ((nd5, .map (#[].push ⟨.string ⟨#[95, 95, 111, 98, 106, 82, 101, 115, 116]⟩, .agg #[.int .i32 0, .int .u32 0, .int .u32 ((1 + 1 + (xt tt) : Nat) : Int)], 0⟩) (0 + 1)) : Rw), row (α 7) 29 #[.iface 241 (.pointer (some ⟨α 6003, 0, none⟩)), .int .i32 0]] X := (hG.list [999, 1999, 2999, 3999, 4999, 5999, 6999, 7999, 8999, 7] (by decide) (act_all (by decide))).conv (by
    show [R9 (fun k => decide (k < 10)) α 999, R9 (fun k => decide (k < 10)) α 1999, R9 (fun k => decide (k < 10)) α 2999, R9 (fun k => decide (k < 10)) α 3999, R9 (fun k => decide (k < 10)) α 4999, R9 (fun k => decide (k < 10)) α 5999, R9 (fun k => decide (k < 10)) α 6999, R9 (fun k => decide (k < 10)) α 7999, R9 (fun k => decide (k < 10)) α 8999, R9 (fun k => decide (k < 10)) α 7] = _
    rw [e0, e1, e2, e3, e4, e5, e6, e7, e8, e9])
  clear hG e0 e1 e2 e3 e4 e5 e6 e7 e8 e9 R9
  generalize hfr : Rega.frameAt _ _ _ _ _ = fr
  have hdf : fr = ⟨#[.int .i64 (mm : Int), .int .i64 (tt : Int), .bool true, .bool false, undef, undef, undef, undef, .bool false, .pointer (some ⟨nd2, 0, none⟩), .pointer (some ⟨B16, 0, none⟩), .pointer (some ⟨α 7, 0, none⟩), .bool true, undef, undef, undef, .int .i64 (mm : Int), .bool (decide ((mm : Int) < 0)), .bool (decide ((mm : Int) < 0)), .int .i64 (mm : Int), .bool (decide (4096 < (mm : Int))), .bool (decide ((mm : Int) < 0) || decide (4096 < (mm : Int))), .bool (decide ((mm : Int) < 0) || decide (4096 < (mm : Int))), .int .i64 (tt : Int), .bool (decide ((tt : Int) < 0)), .bool (decide ((mm : Int) < 0) || decide (4096 < (mm : Int)) || decide ((tt : Int) < 0)), .bool (decide ((mm : Int) < 0) || decide (4096 < (mm : Int)) || decide ((tt : Int) < 0)), .int .i64 (tt : Int), .bool (decide (4096 < (tt : Int))), .bool (decide ((mm : Int) < 0) || decide (4096 < (mm : Int)) || decide ((tt : Int) < 0) || decide (4096 < (tt : Int))), .bool true, .pointer (some ⟨nd2, 0, none⟩), .int .i64 (mm : Int), .int .i64 (tt : Int), .agg #[.iface 205 (.pointer (some ⟨nd14, 0, none⟩)), .int .i32 0], .bool false, undef, .tuple #[.agg #[.iface 241 (.pointer (some ⟨α 6003, 0, none⟩)), .int .i32 0], .bool true], .pointer (some ⟨nd2, 0, none⟩), .agg #[.iface 205 (.pointer (some ⟨nd14, 0, none⟩)), .int .i32 0], .agg #[.iface 56 (.pointer (some ⟨α 2, 0, none⟩)), .int .i32 0], .tuple #[.agg #[.iface 241 (.pointer (some ⟨α 6003, 0, none⟩)), .int .i32 0], .bool true], .agg #[.iface 241 (.pointer (some ⟨α 6003, 0, none⟩)), .int .i32 0], .bool true, undef, undef, undef, undef, undef, undef, undef, undef, undef, undef, undef, undef, undef, undef, undef, undef, undef, undef, undef, undef, undef, undef, undef, undef, undef, undef, undef, undef, undef, undef, undef, undef, undef, undef, undef, undef, undef, undef, undef, undef, undef, undef, undef, undef], []⟩ := by rw [← hfr]; kernel_rfl
  clear hfr
  subst hdf
  generalize α 2 = nd18 at hO ⊢
  generalize α 3 = nd19 at hO ⊢
  generalize α 7 = nd20 at hO ⊢
  generalize α 1003 = nd21 at hO ⊢
  generalize α 2003 = nd22 at hO ⊢
  generalize α 3003 = nd23 at hO ⊢
  generalize α 4003 = nd24 at hO ⊢
  generalize α 5003 = nd25 at hO ⊢
  generalize α 6003 = nd26 at hO ⊢
  generalize α 7003 = nd27 at hO ⊢
  generalize α 8003 = nd28 at hO ⊢
  clear α
  have hN : Own w0 u [row (B16) 29 #[.iface 205 (.pointer (some ⟨nd14, 0, none⟩)), .int .i32 0], row (nd14) 207 #[.slice (some ⟨nd7, 0, none⟩) (mm + 1 + tt) (mm + 1 + tt + nd8), .int .i32 0, .int .i32 0, .bool false, .bool false], row (nd7) 29 (full exZ (iW (xt tt) nd9 mm (nd27) (nd28)) nd8), row (nd10) 204 #[.slice (some ⟨nd11, 0, none⟩) 1 (1 + nd12), .int .i32 0, .int .i32 0, .bool false, .bool false], row (nd11) 52 (full prZ [.pointer none, .nilIface, .int .i32 0, .iface 56 (.pointer (some ⟨nd13, 0, none⟩)), .int .i32 0, .nilIface, .int .i32 0, .slice none 0 0, .int .i32 0, .int .i32 0, .int .u8 5, .int .u8 0] nd12), row (nd2) 182 (pcW ((newPar nd3 nd4 nd5).setIfInBounds 23 (.int .u64 35184372088832)) 0 1 (xt tt) (nd19) (nd21) (nd24) (nd25)), row (nd19) 201 (full symZ (symL (stW (xt tt) 0 1 ([syk ⟨#[]⟩ 0]))) (nd21)), row (nd4) 194 #[.pointer none, .pointer none, .slice none 0 0, .map none, .slice none 0 0, .slice (some ⟨nd22, 0, none⟩) (2 + (xt tt)) (2 + (xt tt) + (nd23)), .int .i32 0, .int .i32 0, .int .u32 0, .int .u32 0, .bool false, .bool false, .bool false, .bool false, .int .u8 0, .int .u8 6], ((nd5, .map (#[].push ⟨.string ⟨#[95, 95, 111, 98, 106, 82, 101, 115, 116]⟩, .agg #[.int .i32 0, .int .u32 0, .int .u32 ((1 + 1 + (xt tt) : Nat) : Int)], 0⟩) (0 + 1)) : Rw), row (nd20) 29 #[.iface 241 (.pointer (some ⟨nd26, 0, none⟩)), .int .i32 0]] X := hO
  clear hO
  have hO := hN
  clear hN
  have hN : Own w0 u [row (nd2) 182 (pcW ((newPar nd3 nd4 nd5).setIfInBounds 23 (.int .u64 35184372088832)) 0 1 (xt tt) (nd19) (nd21) (nd24) (nd25)), row (nd20) 29 #[.iface 241 (.pointer (some ⟨nd26, 0, none⟩)), .int .i32 0]] X := hO.sub [5, 9] (by decide)
  clear hO
  have hO := hN
  clear hN
  clear HI
  rcases xt_cases tt with ⟨hx, htn⟩ | ⟨hx, htn⟩
  · skip
    have hN : Own w0 u [row (nd2) 182 (pcW ((newPar nd3 nd4 nd5).setIfInBounds 23 (.int .u64 35184372088832)) 0 1 0 (nd19) (nd21) (nd24) (nd25)), row (nd20) 29 #[.iface 241 (.pointer (some ⟨nd26, 0, none⟩)), .int .i32 0]] X := hO.conv (by rw [hx])
    clear hO
    have hO := hN
    clear hN
    obtain ⟨c9_1_0, c9_1_1, lt9_1, y9_1, -⟩ := hO.k2 1 rfl
    have HO := Lib.hid hO
    clear hO
    go_wp2_with (first | (with_reducible refine Own.stay (fn := Tryz.f3) ?_) | fail)
    try with_reducible refine Own.Stay.mk ?_
    have hO := HO.out
    clear HO c9_1_0 c9_1_1 lt9_1 y9_1
    have hL := hO.apart
    have hX := hO.apartX
    have HL := Lib.hid hL
    have HX := Lib.hid hX
    clear hL hX
    have hP9 := hO.pick [0] (by decide)
    have h9_hv : (((1 + 2) + 0) : Int) = 3 := rfl
    have T9 := symCt nd2 (pcW ((newPar nd3 nd4 nd5).setIfInBounds 23 (.int .u64 35184372088832)) 0 1 0 nd19 nd21 nd24 nd25) nd19 nd21 ((1 + 2) + 0) 3 _ _ _ hP9 ((pcW_sy _ _ _ _ _ _ _ _ (get_other (newPar_106 _ _ _) (by decide) _) (get_other (newPar_199 _ _ _) (by decide) _) (get_other (newPar_287 _ _ _) (by decide) _)).1) h9_hv
    refine Calls.mono T9 ?_
    clear hP9 T9 h9_hv
    rintro e uw29 ⟨rfl, hQ⟩
    have hN : Own w0 uw29 [row (nd2) 182 (pcW ((newPar nd3 nd4 nd5).setIfInBounds 23 (.int .u64 35184372088832)) 0 1 0 nd19 nd21 nd24 nd25), row (nd20) 29 #[.iface 241 (.pointer (some ⟨nd26, 0, none⟩)), .int .i32 0]] X := hQ.back HL.out HX.out [1] (by decide) (by decide)
    clear hQ HL HX hO
    have hO := hN
    clear hN
    obtain ⟨c9_1_0, c9_1_1, lt9_1, y9_1, -⟩ := hO.k2 1 rfl
    have HO := Lib.hid hO
    clear hO
    go_wp2_with (first | (with_reducible refine Own.stay (fn := Tryz.f3) ?_) | fail)
    try with_reducible refine Own.Stay.mk ?_
    have hO := HO.out
    clear HO c9_1_0 c9_1_1 lt9_1 y9_1
    have hL := hO.apart
    have hX := hO.apartX
    have HL := Lib.hid hL
    have HX := Lib.hid hX
    clear hL hX
    have hP9 := hO.pick [0] (by decide)
    have h9_hv : ((1 + 0) : Int) = 1 := rfl
    have T9 := tmpCt nd2 (pcW ((newPar nd3 nd4 nd5).setIfInBounds 23 (.int .u64 35184372088832)) 0 1 0 nd19 nd21 nd24 nd25) nd24 nd25 (1 + 0) 1 _ _ _ hP9 ((pcW_sy _ _ _ _ _ _ _ _ (get_other (newPar_106 _ _ _) (by decide) _) (get_other (newPar_199 _ _ _) (by decide) _) (get_other (newPar_287 _ _ _) (by decide) _)).2) h9_hv
    refine Calls.mono T9 ?_
    clear hP9 T9 h9_hv
    rintro e uw30 ⟨rfl, hQ⟩
    have hN : Own w0 uw30 [row (nd2) 182 (pcW ((newPar nd3 nd4 nd5).setIfInBounds 23 (.int .u64 35184372088832)) 0 1 0 nd19 nd21 nd24 nd25), row (nd20) 29 #[.iface 241 (.pointer (some ⟨nd26, 0, none⟩)), .int .i32 0]] X := hQ.back HL.out HX.out [1] (by decide) (by decide)
    clear hQ HL HX hO
    have hO := hN
    clear hN
    obtain ⟨c9_1_0, c9_1_1, lt9_1, y9_1, -⟩ := hO.k2 1 rfl
    have HO := Lib.hid hO
    clear hO
    go_wp2_with (first | (with_reducible refine Own.stay (fn := Tryz.f3) ?_) | fail)
    try with_reducible refine Own.Stay.mk ?_
    have hO := HO.out
    clear HO c9_1_0 c9_1_1 lt9_1 y9_1
    refine bodyPost_ret (v := .bool true) ?_ rfl ⟨rfl, hO.sub [] (by decide)⟩
    simp [results, Tryz.results3, go_sem]
  have hN : Own w0 u [row (nd2) 182 (pcW ((newPar nd3 nd4 nd5).setIfInBounds 23 (.int .u64 35184372088832)) 0 1 1 (nd19) (nd21) (nd24) (nd25)), row (nd20) 29 #[.iface 241 (.pointer (some ⟨nd26, 0, none⟩)), .int .i32 0]] X := hO.conv (by rw [hx])
  clear hO
  have hO := hN
  clear hN
  obtain ⟨c9_1_0, c9_1_1, lt9_1, y9_1, -⟩ := hO.k2 1 rfl
  have HO := Lib.hid hO
  clear hO
  go_wp2_with (first | (with_reducible refine Own.stay (fn := Tryz.f3) ?_) | fail)
  try with_reducible refine Own.Stay.mk ?_
  have hO := HO.out
  clear HO c9_1_0 c9_1_1 lt9_1 y9_1
  have hL := hO.apart
  have hX := hO.apartX
  have HL := Lib.hid hL
  have HX := Lib.hid hX
  clear hL hX
  have hP9 := hO.pick [0] (by decide)
  have h9_hv : (((1 + 2) + 1) : Int) = 4 := rfl
  have T9 := symCt nd2 (pcW ((newPar nd3 nd4 nd5).setIfInBounds 23 (.int .u64 35184372088832)) 0 1 1 nd19 nd21 nd24 nd25) nd19 nd21 ((1 + 2) + 1) 4 _ _ _ hP9 ((pcW_sy _ _ _ _ _ _ _ _ (get_other (newPar_106 _ _ _) (by decide) _) (get_other (newPar_199 _ _ _) (by decide) _) (get_other (newPar_287 _ _ _) (by decide) _)).1) h9_hv
  refine Calls.mono T9 ?_
  clear hP9 T9 h9_hv
  rintro e uw31 ⟨rfl, hQ⟩
  have hN : Own w0 uw31 [row (nd2) 182 (pcW ((newPar nd3 nd4 nd5).setIfInBounds 23 (.int .u64 35184372088832)) 0 1 1 nd19 nd21 nd24 nd25), row (nd20) 29 #[.iface 241 (.pointer (some ⟨nd26, 0, none⟩)), .int .i32 0]] X := hQ.back HL.out HX.out [1] (by decide) (by decide)
  clear hQ HL HX hO
  have hO := hN
  clear hN
  obtain ⟨c9_1_0, c9_1_1, lt9_1, y9_1, -⟩ := hO.k2 1 rfl
  have HO := Lib.hid hO
  clear hO
  go_wp2_with (first | (with_reducible refine Own.stay (fn := Tryz.f3) ?_) | fail)
  try with_reducible refine Own.Stay.mk ?_
  have hO := HO.out
  clear HO c9_1_0 c9_1_1 lt9_1 y9_1
  have hL := hO.apart
  have hX := hO.apartX
  have HL := Lib.hid hL
  have HX := Lib.hid hX
  clear hL hX
  have hP9 := hO.pick [0] (by decide)
  have h9_hv : ((1 + 1) : Int) = 2 := rfl
  have T9 := tmpCt nd2 (pcW ((newPar nd3 nd4 nd5).setIfInBounds 23 (.int .u64 35184372088832)) 0 1 1 nd19 nd21 nd24 nd25) nd24 nd25 (1 + 1) 2 _ _ _ hP9 ((pcW_sy _ _ _ _ _ _ _ _ (get_other (newPar_106 _ _ _) (by decide) _) (get_other (newPar_199 _ _ _) (by decide) _) (get_other (newPar_287 _ _ _) (by decide) _)).2) h9_hv
  refine Calls.mono T9 ?_
  clear hP9 T9 h9_hv
  rintro e uw32 ⟨rfl, hQ⟩
  have hN : Own w0 uw32 [row (nd2) 182 (pcW ((newPar nd3 nd4 nd5).setIfInBounds 23 (.int .u64 35184372088832)) 0 1 1 nd19 nd21 nd24 nd25), row (nd20) 29 #[.iface 241 (.pointer (some ⟨nd26, 0, none⟩)), .int .i32 0]] X := hQ.back HL.out HX.out [1] (by decide) (by decide)
  clear hQ HL HX hO
  have hO := hN
  clear hN
  obtain ⟨c9_1_0, c9_1_1, lt9_1, y9_1, -⟩ := hO.k2 1 rfl
  have HO := Lib.hid hO
  clear hO
  go_wp2_with (first | (with_reducible refine Own.stay (fn := Tryz.f3) ?_) | fail)
  try with_reducible refine Own.Stay.mk ?_
  have hO := HO.out
  clear HO c9_1_0 c9_1_1 lt9_1 y9_1
  refine bodyPost_ret (v := .bool true) ?_ rfl ⟨rfl, hO.sub [] (by decide)⟩
  simp [results, Tryz.results3, go_sem]
end Go.Proofs.YtghofdhhhbbaaaaGreatDoor.Use
namespace Go.Proofs.YtghofdhhhbbaaaaGreatDoor.Use
open Go.ChangeShapes Go.WideShapes Go.ChangeAt Go.RowKit Go.Sort Own
set_option linter.unusedVariables false
noncomputable def rLtt4E (nd2 : Nat) (nd3 : Nat) (nd4 : Nat) (nd5 : Nat) (B16 : Nat) (nd19 : Nat) : Nat → Rega.Atoms → Value
  | 0, α => .pointer (some ⟨nd2, 0, none⟩)
  | 1, α => .agg #[.iface 56 (.pointer (some ⟨nd19, 0, none⟩)), .int .i32 0]
  | 2, α => .agg #[.iface 56 (.pointer (some ⟨α 2, 0, none⟩)), .int .i32 0]
  | 3, α => .tuple #[.agg #[.nilIface, .int .i32 0], .bool false]
  | 4, α => .tuple #[.agg #[.nilIface, .int .i32 0], .bool false]
  | 5, α => .agg #[.nilIface, .int .i32 0]
  | 6, α => .bool false
  | 7, α => .pointer (some ⟨α 7, 0, none⟩)
  | 8, α => undef
  | 9, α => .bool false
  | _, _ => undef
noncomputable def rLtt4Anc : Nat → List Nat
  | 3 => [0, 1, 2]
  | 4 => [0, 1, 2, 3]
  | 5 => [0, 1, 2, 3, 4]
  | 6 => [0, 1, 2, 3, 4]
  | 8 => [0, 1, 2, 3, 4, 5, 7]
  | 9 => [0, 1, 2, 3, 4, 5, 6, 7, 8]
  | _ => []
noncomputable def rLtt4Trn : Nat → List Nat
  | 8 => [7]
  | _ => []
noncomputable def rLtt4Cnt : List (Nat × Nat) := [(7, 1)]
noncomputable def rLtt4T7 (nd2 : Nat) (nd3 : Nat) (nd4 : Nat) (nd5 : Nat) (B16 : Nat) (nd19 : Nat) (L9 : Nat → Bool) (α : Rega.Atoms) : Rw := if L9 8 = true then row (α 7) 29 #[.nilIface, .int .i32 0] else row (α 7) 29 #[.nilIface, .int .i32 0]
noncomputable def rLtt4R (nd2 : Nat) (nd3 : Nat) (nd4 : Nat) (nd5 : Nat) (B16 : Nat) (nd19 : Nat) (L9 : Nat → Bool) (α : Rega.Atoms) (ix9 : Nat) : Rw := if ix9 = 999 then row (B16) 29 #[.iface 56 (.pointer (some ⟨nd19, 0, none⟩)), .int .i32 0] else if ix9 = 1999 then row (nd2) 182 ((newPar nd3 nd4 nd5).setIfInBounds 23 (.int .u64 35184372088832)) else if ix9 = 7 then rLtt4T7 nd2 nd3 nd4 nd5 B16 nd19 L9 α else (0, .map #[] 0)
theorem rLtt4_he (nd2 : Nat) (nd3 : Nat) (nd4 : Nat) (nd5 : Nat) (B16 : Nat) (nd19 : Nat) : ∀ kk α α', (∀ j, (j % 1000 = kk ∨ j % 1000 ∈ rLtt4Anc kk) → α j = α' j) → rLtt4E nd2 nd3 nd4 nd5 B16 nd19 kk α = rLtt4E nd2 nd3 nd4 nd5 B16 nd19 kk α' := by
  intro kk α α' h
  match kk with
  | 0 => rfl
  | 1 => rfl
  | 2 => simp only [rLtt4E, h 2 (Or.inl rfl)]
  | 3 => rfl
  | 4 => rfl
  | 5 => rfl
  | 6 => rfl
  | 7 => simp only [rLtt4E, h 7 (Or.inl rfl)]
  | 8 => rfl
  | 9 => rfl
  | n + 10 => rfl
theorem rLtt4_st (nd2 : Nat) (nd3 : Nat) (nd4 : Nat) (nd5 : Nat) (B16 : Nat) (nd19 : Nat) : Stable rLtt4Cnt 2 rLtt4Anc rLtt4Trn (rLtt4R nd2 nd3 nd4 nd5 B16 nd19) := by
  intro k9 L9 α α' ix9 hk hcl hα hact ht
  have hp := act_places hact
  replace hp : ix9 ∈ [999, 1999, 7] := hp
  simp only [List.mem_cons, List.not_mem_nil, or_false] at hp
  rcases hp with rfl | rfl | rfl
  · rfl
  · rfl
  · have e0 : L9 7 = true := act_lt hact (by decide)
    show rLtt4T7 nd2 nd3 nd4 nd5 B16 nd19 (Rega.ran L9 k9) α' = rLtt4T7 nd2 nd3 nd4 nd5 B16 nd19 L9 α
    unfold rLtt4T7
    have n8 : 8 ≠ k9 := fun e => ht (by rw [← e]; decide)
    rw [ran_ne n8]
    by_cases e8 : L9 8 = true
    · first | rw [if_pos e8, if_pos e8] | rw [if_pos e8]
      try simp only [hα 7 (ne_ran hk (hcl 8 e8 7 (by decide)))]
    first | rw [if_neg e8, if_neg e8] | rw [if_neg e8]
    try simp only [hα 7 (ne_ran hk e0)]
def law8ttPost (mm tt : Nat) (w0 : World) (X : Nat → Obj → Prop) (e : Ending) (w' : World) : Prop :=
  e = .returned (.bool true) ∧ Own w0 w' [] X
set_option maxRecDepth 100000 in
set_option maxHeartbeats 4000000 in
theorem law8tt (mm tt : Nat) (w0 w : World) (X : Nat → Obj → Prop) (hO : Own w0 w [] X) (hm4 : mm ≤ 4096) (ht4 : tt ≤ 4096) (hg0 : w0.cell? ⟨0, 0, none⟩ = some (.int .u32 4294967295)) (hg1 : w0.cell? ⟨0, 1, none⟩ = some (.int .u32 4294967295)) :
    Calls Tryz.prog 3 #[.int .i64 (mm : Int), .int .i64 (tt : Int), .bool true, .bool true] w (law8ttPost mm tt w0 X) := by
  go_enter Tryz.func3, Tryz.ntmps3
  have hm8 : (mm : Int) ≤ 4096 := by omega
  have ht8 : (tt : Int) ≤ 4096 := by omega
  have hm7 : (0 : Int) ≤ (mm : Int) := by omega
  have ht7 : (0 : Int) ≤ (tt : Int) := by omega
  go_wp2_with (first | (with_reducible refine Own.stay (fn := Tryz.f3) ?_) | fail)
  try with_reducible refine Own.Stay.mk ?_
  have hL := hO.apart
  have hX := hO.apartX
  have HL := Lib.hid hL
  have HX := Lib.hid hX
  clear hL hX
  have hP9 := hO.pick [] (by decide)
  have T9 := zzp1  _ _ _ hP9 hg0 hg1
  refine Calls.mono T9 ?_
  clear hP9 T9
  rintro e uw1 ⟨nd2, nd3, nd4, nd5, rfl, hQ⟩
  have hN : Own w0 uw1 [row (nd2) 182 ((newPar nd3 nd4 nd5).setIfInBounds 23 (.int .u64 35184372088832)), row (nd3) 201 (full symZ (symL ([syk ⟨#[]⟩ 0])) 0), row (nd4) 194 #[.pointer none, .pointer none, .slice none 0 0, .map none, .slice none 0 0, .slice none 0 0, .int .i32 0, .int .i32 0, .int .u32 0, .int .u32 0, .bool false, .bool false, .bool false, .bool false, .int .u8 0, .int .u8 6], ((nd5, .map #[] 0) : Rw)] X := hQ.back HL.out HX.out [] (by decide) (by decide)
  clear hQ HL HX hO
  have hO := hN
  clear hN
  go_wp2_with (first | (with_reducible refine Own.stay (fn := Tryz.f3) ?_) | fail)
  try with_reducible refine Own.Stay.mk ?_
  have hL := hO.apart
  have hX := hO.apartX
  have HL := Lib.hid hL
  have HX := Lib.hid hX
  clear hL hX
  have hP9 := hO.pick [] (by decide)
  have T9 := arrPat mm tt _ _ _ hP9 hm4 ht4
  refine Calls.mono T9 ?_
  clear hP9 T9
  rintro e uw6 ⟨nd7, nd8, nd9, nd10, nd11, nd12, nd13, nd14, rfl, pr15, hQ⟩
  have hN : Own w0 uw6 [row (nd14) 207 #[.slice (some ⟨nd7, 0, none⟩) (mm + 1 + tt) (mm + 1 + tt + nd8), .int .i32 0, .int .i32 0, .bool false, .bool false], row (nd7) 29 (full exZ nd9 nd8), row (nd10) 204 #[.slice (some ⟨nd11, 0, none⟩) 1 (1 + nd12), .int .i32 0, .int .i32 0, .bool false, .bool false], row (nd11) 52 (full prZ [.pointer none, .nilIface, .int .i32 0, .iface 56 (.pointer (some ⟨nd13, 0, none⟩)), .int .i32 0, .nilIface, .int .i32 0, .slice none 0 0, .int .i32 0, .int .i32 0, .int .u8 5, .int .u8 0] nd12), row (nd2) 182 ((newPar nd3 nd4 nd5).setIfInBounds 23 (.int .u64 35184372088832)), row (nd3) 201 (full symZ (symL ([syk ⟨#[]⟩ 0])) 0), row (nd4) 194 #[.pointer none, .pointer none, .slice none 0 0, .map none, .slice none 0 0, .slice none 0 0, .int .i32 0, .int .i32 0, .int .u32 0, .int .u32 0, .bool false, .bool false, .bool false, .bool false, .int .u8 0, .int .u8 6], ((nd5, .map #[] 0) : Rw)] X := hQ.back HL.out HX.out [0, 1, 2, 3] (by decide) (by decide)
  clear hQ HL HX hO
  have hO := hN
  clear hN
  have HI := Lib.hid pr15
  clear pr15
  obtain ⟨c9_0_0, c9_0_1, c9_0_2, c9_0_3, c9_0_4, lt9_0, y9_0, -⟩ := hO.k5 0 rfl
  obtain ⟨c9_2_0, c9_2_1, c9_2_2, c9_2_3, c9_2_4, lt9_2, y9_2, -⟩ := hO.k5 2 rfl
  have HO := Lib.hid hO
  clear hO
  go_wp2_with (first | (with_reducible refine Own.stay (fn := Tryz.f3) ?_) | fail)
  try with_reducible refine Own.Stay.mk ?_
  have hO := HO.out
  clear HO c9_0_0 c9_0_1 c9_0_2 c9_0_3 c9_0_4 lt9_0 y9_0 c9_2_0 c9_2_1 c9_2_2 c9_2_3 c9_2_4 lt9_2 y9_2
  generalize hW : World.alloc _ _ = W17
  have hN : Own w0 W17 [row (uw6.heap.size) 29 #[.iface 205 (.pointer (some ⟨nd14, 0, none⟩)), .int .i32 0], row (nd14) 207 #[.slice (some ⟨nd7, 0, none⟩) (mm + 1 + tt) (mm + 1 + tt + nd8), .int .i32 0, .int .i32 0, .bool false, .bool false], row (nd7) 29 (full exZ nd9 nd8), row (nd10) 204 #[.slice (some ⟨nd11, 0, none⟩) 1 (1 + nd12), .int .i32 0, .int .i32 0, .bool false, .bool false], row (nd11) 52 (full prZ [.pointer none, .nilIface, .int .i32 0, .iface 56 (.pointer (some ⟨nd13, 0, none⟩)), .int .i32 0, .nilIface, .int .i32 0, .slice none 0 0, .int .i32 0, .int .i32 0, .int .u8 5, .int .u8 0] nd12), row (nd2) 182 ((newPar nd3 nd4 nd5).setIfInBounds 23 (.int .u64 35184372088832)), row (nd3) 201 (full symZ (symL ([syk ⟨#[]⟩ 0])) 0), row (nd4) 194 #[.pointer none, .pointer none, .slice none 0 0, .map none, .slice none 0 0, .slice none 0 0, .int .i32 0, .int .i32 0, .int .u32 0, .int .u32 0, .bool false, .bool false, .bool false, .bool false, .int .u8 0, .int .u8 6], ((nd5, .map #[] 0) : Rw)] X := by
    rw [← hW]
    exact (hO).alloc' _ (uw6.heap.size) (by simp)
  clear hW hO
  generalize uw6.heap.size = B16 at hN ⊢
  have hO := hN
  clear hN
  have hL := hO.apart
  have hX := hO.apartX
  have HL := Lib.hid hL
  have HX := Lib.hid hX
  clear hL hX
  have hP9 := hO.pick [] (by decide)
  have T9 := newId  _ _ _ hP9 
  refine Calls.mono T9 ?_
  clear hP9 T9
  rintro e uw18 ⟨nd19, rfl, hQ⟩
  have hN : Own w0 uw18 [row (B16) 29 #[.iface 205 (.pointer (some ⟨nd14, 0, none⟩)), .int .i32 0], row (nd14) 207 #[.slice (some ⟨nd7, 0, none⟩) (mm + 1 + tt) (mm + 1 + tt + nd8), .int .i32 0, .int .i32 0, .bool false, .bool false], row (nd7) 29 (full exZ nd9 nd8), row (nd10) 204 #[.slice (some ⟨nd11, 0, none⟩) 1 (1 + nd12), .int .i32 0, .int .i32 0, .bool false, .bool false], row (nd11) 52 (full prZ [.pointer none, .nilIface, .int .i32 0, .iface 56 (.pointer (some ⟨nd13, 0, none⟩)), .int .i32 0, .nilIface, .int .i32 0, .slice none 0 0, .int .i32 0, .int .i32 0, .int .u8 5, .int .u8 0] nd12), row (nd2) 182 ((newPar nd3 nd4 nd5).setIfInBounds 23 (.int .u64 35184372088832)), row (nd3) 201 (full symZ (symL ([syk ⟨#[]⟩ 0])) 0), row (nd4) 194 #[.pointer none, .pointer none, .slice none 0 0, .map none, .slice none 0 0, .slice none 0 0, .int .i32 0, .int .i32 0, .int .u32 0, .int .u32 0, .bool false, .bool false, .bool false, .bool false, .int .u8 0, .int .u8 6], ((nd5, .map #[] 0) : Rw)] X := hQ.back HL.out HX.out [0, 1, 2, 3, 4, 5, 6, 7, 8] (by decide) (by decide)
  clear hQ HL HX hO
  have hO := hN
  clear hN
  obtain ⟨c9_0_0, c9_0_1, lt9_0, y9_0, -⟩ := hO.k2 0 rfl
  obtain ⟨c9_1_0, c9_1_1, c9_1_2, c9_1_3, c9_1_4, lt9_1, y9_1, -⟩ := hO.k5 1 rfl
  obtain ⟨c9_3_0, c9_3_1, c9_3_2, c9_3_3, c9_3_4, lt9_3, y9_3, -⟩ := hO.k5 3 rfl
  have HO := Lib.hid hO
  clear hO
  go_wp2_with (first | (with_reducible refine Own.stay (fn := Tryz.f3) ?_) | fail)
  try with_reducible refine Own.Stay.mk ?_
  have hO := HO.out
  clear HO c9_0_0 c9_0_1 lt9_0 y9_0 c9_1_0 c9_1_1 c9_1_2 c9_1_3 c9_1_4 lt9_1 y9_1 c9_3_0 c9_3_1 c9_3_2 c9_3_3 c9_3_4 lt9_3 y9_3
  generalize hW : World.setCell _ _ _ = W21
  have hN : Own w0 W21 [row (B16) 29 #[.iface 56 (.pointer (some ⟨nd19, 0, none⟩)), .int .i32 0], row (nd14) 207 #[.slice (some ⟨nd7, 0, none⟩) (mm + 1 + tt) (mm + 1 + tt + nd8), .int .i32 0, .int .i32 0, .bool false, .bool false], row (nd7) 29 (full exZ nd9 nd8), row (nd10) 204 #[.slice (some ⟨nd11, 0, none⟩) 1 (1 + nd12), .int .i32 0, .int .i32 0, .bool false, .bool false], row (nd11) 52 (full prZ [.pointer none, .nilIface, .int .i32 0, .iface 56 (.pointer (some ⟨nd13, 0, none⟩)), .int .i32 0, .nilIface, .int .i32 0, .slice none 0 0, .int .i32 0, .int .i32 0, .int .u8 5, .int .u8 0] nd12), row (nd2) 182 ((newPar nd3 nd4 nd5).setIfInBounds 23 (.int .u64 35184372088832)), row (nd3) 201 (full symZ (symL ([syk ⟨#[]⟩ 0])) 0), row (nd4) 194 #[.pointer none, .pointer none, .slice none 0 0, .map none, .slice none 0 0, .slice none 0 0, .int .i32 0, .int .i32 0, .int .u32 0, .int .u32 0, .bool false, .bool false, .bool false, .bool false, .int .u8 0, .int .u8 6], ((nd5, .map #[] 0) : Rw)] X := by
    rw [← hW]
    exact ((hO).set 0 rfl 0 _).set 0 rfl 1 _
  clear hW hO
  have hO := hN
  clear hN
  have hL := hO.apart
  have hX := hO.apartX
  have HL := Lib.hid hL
  have HX := Lib.hid hX
  clear hL hX
  have hP9 := hO.pick [0, 5] (by decide)
  generalize hX9_22 : Own.Rest _ _ X = X9_22 at hP9
  replace hP9 : Own w0 W21 [row (B16) 29 #[.iface 56 (.pointer (some ⟨nd19, 0, none⟩)), .int .i32 0], row (nd2) 182 ((newPar nd3 nd4 nd5).setIfInBounds 23 (.int .u64 35184372088832))] X9_22 := hP9
  clear hO
  have hO := hP9
  clear hP9
  have st9 := rLtt4_st nd2 nd3 nd4 nd5 B16 nd19
  let R9 := rLtt4R nd2 nd3 nd4 nd5 B16 nd19
  refine wp_region_own (e := rLtt4E nd2 nd3 nd4 nd5 B16 nd19) (anc := rLtt4Anc) (G := (fun L9 α u9 => OwnF w0 u9 (act rLtt4Cnt 2 L9) (rLtt4R nd2 nd3 nd4 nd5 B16 nd19 L9 α) X9_22)) (by kernel_rfl) (by kernel_rfl) (by kernel_rfl) (by kernel_rfl) (rLtt4_he nd2 nd3 nd4 nd5 B16 nd19) ?_ (RunsAll.all ?_) ?_
  · have hp : ∀ i, act rLtt4Cnt 2 (fun _ => false) i → i ∈ [999, 1999] := by
      intro i hi
      have h9 : i % 1000 = 999 := by
        by_cases h : i % 1000 = 999
        · exact h
        · exact absurd (act_lt hi h) (by simp)
      unfold act at hi
      rw [if_pos h9] at hi
      simp only [List.mem_cons, List.not_mem_nil, or_false]
      omega
    refine hO.drew.family (fun i hi => ?_) (fun i j hi hj hij => ?_)
    · have := hp i hi
      simp only [List.mem_cons, List.not_mem_nil, or_false] at this
      rcases this with rfl | rfl <;> rfl
    · have h1 := hp i hi
      have h2 := hp j hj
      simp only [List.mem_cons, List.not_mem_nil, or_false] at h1 h2
      omega
  · refine ⟨?_, ?_, ?_, ?_, ?_, ?_, ?_, ?_, ?_, ?_, trivial⟩
    · intro L9 α a9 u9 K9 hL hcl hA hG hS h0 h1 hK
      replace hL : L9 0 = false := hL
      have q9 : a9.tmps[9]? = some (.pointer (some ⟨nd2, 0, none⟩)) := (h0 9 (by kernel_rfl)).trans rfl
      have s9 := Rega.eval_of q9
      go_simp
      exact hK _ α _ (fun _ _ => rfl) rfl (step_same (st9) hL hcl rfl rfl hG)
    · intro L9 α a9 u9 K9 hL hcl hA hG hS h0 h1 hK
      replace hL : L9 1 = false := hL
      have q10 : a9.tmps[10]? = some (.pointer (some ⟨B16, 0, none⟩)) := (h0 10 (by kernel_rfl)).trans rfl
      have s10 := Rega.eval_of q10
      have e0 : R9 L9 α 999 = row (B16) 29 #[.iface 56 (.pointer (some ⟨nd19, 0, none⟩)), .int .i32 0] := rfl
      have hr := hG.rowAt 999 (act_base 999 rfl) e0
      have c0 : u9.cell? ⟨B16, 0, none⟩ = some (.iface 56 (.pointer (some ⟨nd19, 0, none⟩))) := hr.cell rfl
      have c1 : u9.cell? ⟨B16, 1, none⟩ = some (.int .i32 0) := hr.cell rfl
      clear hr e0
      go_simp
      exact hK _ α _ (fun _ _ => rfl) rfl (step_same (st9) hL hcl rfl rfl hG)
    · intro L9 α a9 u9 K9 hL hcl hA hG hS h0 h1 hK
      replace hL : L9 2 = false := hL
      go_simp
      have hM : ∀ i, i ∈ [] → act rLtt4Cnt 2 L9 i := by intro i hi; simp at hi
      have hP : Own w0 u9 [] _ := hG.pick [] (by decide) (by simp)
      clear hM
      refine Calls.mono (newId  _ _ _ hP ) ?_
      rintro e9 u1 ⟨b0, rfl, hQ⟩
      obtain ⟨α', hα'⟩ : ∃ α' : Rega.Atoms, α' = (fun j => if j = 2 then b0 else α j) := ⟨_, rfl⟩
      have hα : ∀ j, j % 1000 ≠ 2 → α' j = α j := fun j hj => by rw [hα']; simp only []; rw [if_neg (by omega)]
      have hb0 : α' 2 = b0 := by rw [hα']; rfl
      skip
      refine hK _ α' _ hα ?_ (step_call (st9) hL hcl hα [] [] (by decide) (by decide) (by decide) (M := _) ?_ hG hQ)
      · show _ = (.agg #[.iface 56 (.pointer (some ⟨α' 2, 0, none⟩)), .int .i32 0] : Value)
        simp only [hb0]
      · rfl
    · intro L9 α a9 u9 K9 hL hcl hA hG hS h0 h1 hK
      replace hL : L9 3 = false := hL
      have q38 : a9.tmps[38]? = some (.pointer (some ⟨nd2, 0, none⟩)) := hS 0 38 (by decide) rfl (by show 38 < 88; decide)
      have s38 := Rega.eval_of q38
      have q39 : a9.tmps[39]? = some (.agg #[.iface 56 (.pointer (some ⟨nd19, 0, none⟩)), .int .i32 0]) := hS 1 39 (by decide) rfl (by show 39 < 88; decide)
      have s39 := Rega.eval_of q39
      have q40 : a9.tmps[40]? = some (.agg #[.iface 56 (.pointer (some ⟨α 2, 0, none⟩)), .int .i32 0]) := hS 2 40 (by decide) rfl (by show 40 < 88; decide)
      have s40 := Rega.eval_of q40
      go_simp
      have e0 : R9 L9 α 1999 = row (nd2) 182 ((newPar nd3 nd4 nd5).setIfInBounds 23 (.int .u64 35184372088832)) := rfl
      have hM : ∀ i, i ∈ [1999] → act rLtt4Cnt 2 L9 i := by
        intro i hi
        simp only [List.mem_cons, List.not_mem_nil, or_false] at hi
        subst hi
        exact act_base 1999 rfl
      have hP : Own w0 u9 [row (nd2) 182 ((newPar nd3 nd4 nd5).setIfInBounds 23 (.int .u64 35184372088832))] _ := (hG.pick [1999] (by decide) hM).conv (by
        show [R9 L9 α 1999] = _
        rw [e0])
      clear e0 hM
      refine Calls.mono (dlowI1 nd2 ((newPar nd3 nd4 nd5).setIfInBounds 23 (.int .u64 35184372088832)) nd19 0 (α 2) 0 _ _ _ hP (get_set (newPar_23 _ _ _) _)) ?_
      rintro e9 u1 ⟨rfl, hQ⟩
      obtain ⟨α', hα'⟩ : ∃ α' : Rega.Atoms, α' = α := ⟨_, rfl⟩
      have f0 : R9 (Rega.ran L9 3) α' 1999 = row (nd2) 182 ((newPar nd3 nd4 nd5).setIfInBounds 23 (.int .u64 35184372088832)) := rfl
      have hα : ∀ j, j % 1000 ≠ 3 → α' j = α j := fun j hj => by rw [hα']
      skip
      refine hK _ α' _ hα ?_ (step_call (st9) hL hcl hα [1999] [1999] (by decide) (by decide) (by decide) (M := _) ?_ hG hQ)
      · rfl
      · show [R9 (Rega.ran L9 3) α' 1999] = _
        rw [f0]
    · intro L9 α a9 u9 K9 hL hcl hA hG hS h0 h1 hK
      replace hL : L9 4 = false := hL
      have q41 : a9.tmps[41]? = some (.tuple #[.agg #[.nilIface, .int .i32 0], .bool false]) := hS 3 41 (by decide) rfl (by show 41 < 88; decide)
      have s41 := Rega.eval_of q41
      go_simp
      exact hK _ α _ (fun _ _ => rfl) rfl (step_same (st9) hL hcl rfl rfl hG)
    · intro L9 α a9 u9 K9 hL hcl hA hG hS h0 h1 hK
      replace hL : L9 5 = false := hL
      have q37 : a9.tmps[37]? = some (.tuple #[.agg #[.nilIface, .int .i32 0], .bool false]) := hS 4 37 (by decide) rfl (by show 37 < 88; decide)
      have s37 := Rega.eval_of q37
      go_simp
      exact hK _ α _ (fun _ _ => rfl) rfl (step_same (st9) hL hcl rfl rfl hG)
    · intro L9 α a9 u9 K9 hL hcl hA hG hS h0 h1 hK
      replace hL : L9 6 = false := hL
      have q37 : a9.tmps[37]? = some (.tuple #[.agg #[.nilIface, .int .i32 0], .bool false]) := hS 4 37 (by decide) rfl (by show 37 < 88; decide)
      have s37 := Rega.eval_of q37
      go_simp
      exact hK _ α _ (fun _ _ => rfl) rfl (step_same (st9) hL hcl rfl rfl hG)
    · intro L9 α a9 u9 K9 hL hcl hA hG hS h0 h1 hK
      replace hL : L9 7 = false := hL
      go_simp
      have e1 : R9 (Rega.ran L9 7) (fun j => if j = 7 then u9.heap.size else α j) 7 = row (u9.heap.size) 29 #[.nilIface, .int .i32 0] := by
        show rLtt4T7 nd2 nd3 nd4 nd5 B16 nd19 (Rega.ran L9 7) (fun j => if j = 7 then u9.heap.size else α j) = _
        unfold rLtt4T7
        exact ((if_neg (fun e => (fun e => by have := hcl 8 e 7 (by decide); rw [hL] at this; cases this) ((ran_ne (by decide)).symm.trans e))).trans rfl)
      exact hK _ (fun j => if j = 7 then u9.heap.size else α j) _ (fun j hj => if_neg (fun e => hj (by rw [e]))) rfl (step_alloc (st9) hL hcl rfl rfl (by decide) _ e1 hG)
    · intro L9 α a9 u9 K9 hL hcl hA hG hS h0 h1 hK
      replace hL : L9 8 = false := hL
      have q11 : a9.tmps[11]? = some (.pointer (some ⟨α 7, 0, none⟩)) := hS 7 11 (by decide) rfl (by show 11 < 88; decide)
      have s11 := Rega.eval_of q11
      have q42 : a9.tmps[42]? = some (.agg #[.nilIface, .int .i32 0]) := hS 5 42 (by decide) rfl (by show 42 < 88; decide)
      have s42 := Rega.eval_of q42
      have e0 : R9 L9 α 7 = row (α 7) 29 #[.nilIface, .int .i32 0] := by
        show rLtt4T7 nd2 nd3 nd4 nd5 B16 nd19 L9 α = _
        unfold rLtt4T7
        rw [if_neg (by rw [hL]; decide)]
      have hr := hG.rowAt 7 (act_new 7 rfl (hA 7 (by decide))) e0
      have c0 : u9.cell? ⟨α 7, 0, none⟩ = some (.nilIface) := hr.cell rfl
      have y0 : u9.frozen? ⟨α 7, 0, none⟩ = false := hr.free (0)
      have c1 : u9.cell? ⟨α 7, 1, none⟩ = some (.int .i32 0) := hr.cell rfl
      have y1 : u9.frozen? ⟨α 7, 1, none⟩ = false := hr.free (1)
      clear hr
      have E0 := Lib.hid e0
      clear e0
      go_simp
      have e1 : R9 (Rega.ran L9 8) α 7 = row (α 7) 29 #[.nilIface, .int .i32 0] := by
        show rLtt4T7 nd2 nd3 nd4 nd5 B16 nd19 (Rega.ran L9 8) α = _
        unfold rLtt4T7
        rw [if_pos (show Rega.ran L9 8 8 = true from rfl)]
      exact hK _ α _ (fun _ _ => rfl) rfl (step_sets (st9) hL hcl rfl 7 rfl (act_new 7 rfl (hA 7 (by decide))) E0.out (0) [.nilIface, .int .i32 0] (e1.trans rfl) hG)
    · intro L9 α a9 u9 K9 hL hcl hA hG hS h0 h1 hK
      replace hL : L9 9 = false := hL
      have q43 : a9.tmps[43]? = some (.bool false) := hS 6 43 (by decide) rfl (by show 43 < 88; decide)
      have s43 := Rega.eval_of q43
      go_simp
      exact hK _ α _ (fun _ _ => rfl) rfl (step_same (st9) hL hcl rfl rfl hG)
  clear st9
  intro α u hG
  have e0 : R9 (fun k => decide (k < 10)) α 999 = row (B16) 29 #[.iface 56 (.pointer (some ⟨nd19, 0, none⟩)), .int .i32 0] := rfl
  have e1 : R9 (fun k => decide (k < 10)) α 1999 = row (nd2) 182 ((newPar nd3 nd4 nd5).setIfInBounds 23 (.int .u64 35184372088832)) := rfl
  have e2 : R9 (fun k => decide (k < 10)) α 7 = row (α 7) 29 #[.nilIface, .int .i32 0] := by
    show rLtt4T7 nd2 nd3 nd4 nd5 B16 nd19 (fun k => decide (k < 10)) α = _
    unfold rLtt4T7
    rw [if_pos (by decide)]
  have hO : Own w0 u [row (B16) 29 #[.iface 56 (.pointer (some ⟨nd19, 0, none⟩)), .int .i32 0], row (nd2) 182 ((newPar nd3 nd4 nd5).setIfInBounds 23 (.int .u64 35184372088832)), row (α 7) 29 #[.nilIface, .int .i32 0]] X9_22 := (hG.list [999, 1999, 7] (by decide) (act_all (by decide))).conv (by
    show [R9 (fun k => decide (k < 10)) α 999, R9 (fun k => decide (k < 10)) α 1999, R9 (fun k => decide (k < 10)) α 7] = _
    rw [e0, e1, e2])
  clear hG e0 e1 e2 R9
  generalize hfr : Rega.frameAt _ _ _ _ _ = fr
  have hdf : fr = ⟨#[.int .i64 (mm : Int), .int .i64 (tt : Int), .bool true, .bool true, undef, undef, undef, undef, .bool false, .pointer (some ⟨nd2, 0, none⟩), .pointer (some ⟨B16, 0, none⟩), .pointer (some ⟨α 7, 0, none⟩), .bool false, undef, undef, undef, .int .i64 (mm : Int), .bool (decide ((mm : Int) < 0)), .bool (decide ((mm : Int) < 0)), .int .i64 (mm : Int), .bool (decide (4096 < (mm : Int))), .bool (decide ((mm : Int) < 0) || decide (4096 < (mm : Int))), .bool (decide ((mm : Int) < 0) || decide (4096 < (mm : Int))), .int .i64 (tt : Int), .bool (decide ((tt : Int) < 0)), .bool (decide ((mm : Int) < 0) || decide (4096 < (mm : Int)) || decide ((tt : Int) < 0)), .bool (decide ((mm : Int) < 0) || decide (4096 < (mm : Int)) || decide ((tt : Int) < 0)), .int .i64 (tt : Int), .bool (decide (4096 < (tt : Int))), .bool (decide ((mm : Int) < 0) || decide (4096 < (mm : Int)) || decide ((tt : Int) < 0) || decide (4096 < (tt : Int))), .bool true, .pointer (some ⟨nd2, 0, none⟩), .int .i64 (mm : Int), .int .i64 (tt : Int), .agg #[.iface 205 (.pointer (some ⟨nd14, 0, none⟩)), .int .i32 0], .bool true, .agg #[.iface 56 (.pointer (some ⟨nd19, 0, none⟩)), .int .i32 0], .tuple #[.agg #[.nilIface, .int .i32 0], .bool false], .pointer (some ⟨nd2, 0, none⟩), .agg #[.iface 56 (.pointer (some ⟨nd19, 0, none⟩)), .int .i32 0], .agg #[.iface 56 (.pointer (some ⟨α 2, 0, none⟩)), .int .i32 0], .tuple #[.agg #[.nilIface, .int .i32 0], .bool false], .agg #[.nilIface, .int .i32 0], .bool false, undef, undef, undef, undef, undef, undef, undef, undef, undef, undef, undef, undef, undef, undef, undef, undef, undef, undef, undef, undef, undef, undef, undef, undef, undef, undef, undef, undef, undef, undef, undef, undef, undef, undef, undef, undef, undef, undef, undef, undef, undef, undef, undef, undef], []⟩ := by rw [← hfr]; kernel_rfl
  clear hfr
  subst hdf
  generalize α 2 = nd23 at hO ⊢
  generalize α 7 = nd24 at hO ⊢
  clear α
  subst hX9_22
  have hN : Own w0 u [row (B16) 29 #[.iface 56 (.pointer (some ⟨nd19, 0, none⟩)), .int .i32 0], row (nd2) 182 ((newPar nd3 nd4 nd5).setIfInBounds 23 (.int .u64 35184372088832)), row (nd24) 29 #[.nilIface, .int .i32 0], row (nd14) 207 #[.slice (some ⟨nd7, 0, none⟩) (mm + 1 + tt) (mm + 1 + tt + nd8), .int .i32 0, .int .i32 0, .bool false, .bool false], row (nd7) 29 (full exZ nd9 nd8), row (nd10) 204 #[.slice (some ⟨nd11, 0, none⟩) 1 (1 + nd12), .int .i32 0, .int .i32 0, .bool false, .bool false], row (nd11) 52 (full prZ [.pointer none, .nilIface, .int .i32 0, .iface 56 (.pointer (some ⟨nd13, 0, none⟩)), .int .i32 0, .nilIface, .int .i32 0, .slice none 0 0, .int .i32 0, .int .i32 0, .int .u8 5, .int .u8 0] nd12), row (nd3) 201 (full symZ (symL ([syk ⟨#[]⟩ 0])) 0), row (nd4) 194 #[.pointer none, .pointer none, .slice none 0 0, .map none, .slice none 0 0, .slice none 0 0, .int .i32 0, .int .i32 0, .int .u32 0, .int .u32 0, .bool false, .bool false, .bool false, .bool false, .int .u8 0, .int .u8 6], ((nd5, .map #[] 0) : Rw)] X := hO.back HL.out HX.out [1, 2, 3, 4, 6, 7, 8] (by decide) (by decide)
  clear hO HL HX
  have hO := hN
  clear hN
  obtain ⟨c9_0_0, c9_0_1, lt9_0, y9_0, -⟩ := hO.k2 0 rfl
  obtain ⟨c9_2_0, c9_2_1, lt9_2, y9_2, -⟩ := hO.k2 2 rfl
  obtain ⟨c9_3_0, c9_3_1, c9_3_2, c9_3_3, c9_3_4, lt9_3, y9_3, -⟩ := hO.k5 3 rfl
  obtain ⟨c9_5_0, c9_5_1, c9_5_2, c9_5_3, c9_5_4, lt9_5, y9_5, -⟩ := hO.k5 5 rfl
  have HO := Lib.hid hO
  clear hO
  go_wp2_with (first | (with_reducible refine Own.stay (fn := Tryz.f3) ?_) | fail)
  try with_reducible refine Own.Stay.mk ?_
  have hO := HO.out
  clear HO c9_0_0 c9_0_1 lt9_0 y9_0 c9_2_0 c9_2_1 lt9_2 y9_2 c9_3_0 c9_3_1 c9_3_2 c9_3_3 c9_3_4 lt9_3 y9_3 c9_5_0 c9_5_1 c9_5_2 c9_5_3 c9_5_4 lt9_5 y9_5
  have hL := hO.apart
  have hX := hO.apartX
  have HL := Lib.hid hL
  have HX := Lib.hid hX
  clear hL hX
  have hP9 := hO.pick [1] (by decide)
  have T9 := symCt1 nd2 ((newPar nd3 nd4 nd5).setIfInBounds 23 (.int .u64 35184372088832)) nd3 _ _ _ hP9 (get_other (newPar_106 _ _ _) (by omega) _)
  refine Calls.mono T9 ?_
  clear hP9 T9
  rintro e uw25 ⟨rfl, hQ⟩
  have hN : Own w0 uw25 [row (nd2) 182 ((newPar nd3 nd4 nd5).setIfInBounds 23 (.int .u64 35184372088832)), row (B16) 29 #[.iface 56 (.pointer (some ⟨nd19, 0, none⟩)), .int .i32 0], row (nd24) 29 #[.nilIface, .int .i32 0], row (nd14) 207 #[.slice (some ⟨nd7, 0, none⟩) (mm + 1 + tt) (mm + 1 + tt + nd8), .int .i32 0, .int .i32 0, .bool false, .bool false], row (nd7) 29 (full exZ nd9 nd8), row (nd10) 204 #[.slice (some ⟨nd11, 0, none⟩) 1 (1 + nd12), .int .i32 0, .int .i32 0, .bool false, .bool false], row (nd11) 52 (full prZ [.pointer none, .nilIface, .int .i32 0, .iface 56 (.pointer (some ⟨nd13, 0, none⟩)), .int .i32 0, .nilIface, .int .i32 0, .slice none 0 0, .int .i32 0, .int .i32 0, .int .u8 5, .int .u8 0] nd12), row (nd3) 201 (full symZ (symL ([syk ⟨#[]⟩ 0])) 0), row (nd4) 194 #[.pointer none, .pointer none, .slice none 0 0, .map none, .slice none 0 0, .slice none 0 0, .int .i32 0, .int .i32 0, .int .u32 0, .int .u32 0, .bool false, .bool false, .bool false, .bool false, .int .u8 0, .int .u8 6], ((nd5, .map #[] 0) : Rw)] X := hQ.back HL.out HX.out [0, 2, 3, 4, 5, 6, 7, 8, 9] (by decide) (by decide)
  clear hQ HL HX hO
  have hO := hN
  clear hN
  obtain ⟨c9_1_0, c9_1_1, lt9_1, y9_1, -⟩ := hO.k2 1 rfl
  obtain ⟨c9_2_0, c9_2_1, lt9_2, y9_2, -⟩ := hO.k2 2 rfl
  obtain ⟨c9_3_0, c9_3_1, c9_3_2, c9_3_3, c9_3_4, lt9_3, y9_3, -⟩ := hO.k5 3 rfl
  obtain ⟨c9_5_0, c9_5_1, c9_5_2, c9_5_3, c9_5_4, lt9_5, y9_5, -⟩ := hO.k5 5 rfl
  have HO := Lib.hid hO
  clear hO
  go_wp2_with (first | (with_reducible refine Own.stay (fn := Tryz.f3) ?_) | fail)
  try with_reducible refine Own.Stay.mk ?_
  have hO := HO.out
  clear HO c9_1_0 c9_1_1 lt9_1 y9_1 c9_2_0 c9_2_1 lt9_2 y9_2 c9_3_0 c9_3_1 c9_3_2 c9_3_3 c9_3_4 lt9_3 y9_3 c9_5_0 c9_5_1 c9_5_2 c9_5_3 c9_5_4 lt9_5 y9_5
  have hL := hO.apart
  have hX := hO.apartX
  have HL := Lib.hid hL
  have HX := Lib.hid hX
  clear hL hX
  have hP9 := hO.pick [0] (by decide)
  have T9 := tmpCt0 nd2 ((newPar nd3 nd4 nd5).setIfInBounds 23 (.int .u64 35184372088832)) _ _ _ hP9 (get_other (newPar_199 _ _ _) (by omega) _)
  refine Calls.mono T9 ?_
  clear hP9 T9
  rintro e uw26 ⟨rfl, hQ⟩
  have hN : Own w0 uw26 [row (nd2) 182 ((newPar nd3 nd4 nd5).setIfInBounds 23 (.int .u64 35184372088832)), row (B16) 29 #[.iface 56 (.pointer (some ⟨nd19, 0, none⟩)), .int .i32 0], row (nd24) 29 #[.nilIface, .int .i32 0], row (nd14) 207 #[.slice (some ⟨nd7, 0, none⟩) (mm + 1 + tt) (mm + 1 + tt + nd8), .int .i32 0, .int .i32 0, .bool false, .bool false], row (nd7) 29 (full exZ nd9 nd8), row (nd10) 204 #[.slice (some ⟨nd11, 0, none⟩) 1 (1 + nd12), .int .i32 0, .int .i32 0, .bool false, .bool false], row (nd11) 52 (full prZ [.pointer none, .nilIface, .int .i32 0, .iface 56 (.pointer (some ⟨nd13, 0, none⟩)), .int .i32 0, .nilIface, .int .i32 0, .slice none 0 0, .int .i32 0, .int .i32 0, .int .u8 5, .int .u8 0] nd12), row (nd3) 201 (full symZ (symL ([syk ⟨#[]⟩ 0])) 0), row (nd4) 194 #[.pointer none, .pointer none, .slice none 0 0, .map none, .slice none 0 0, .slice none 0 0, .int .i32 0, .int .i32 0, .int .u32 0, .int .u32 0, .bool false, .bool false, .bool false, .bool false, .int .u8 0, .int .u8 6], ((nd5, .map #[] 0) : Rw)] X := hQ.back HL.out HX.out [1, 2, 3, 4, 5, 6, 7, 8, 9] (by decide) (by decide)
  clear hQ HL HX hO
  have hO := hN
  clear hN
  obtain ⟨c9_1_0, c9_1_1, lt9_1, y9_1, -⟩ := hO.k2 1 rfl
  obtain ⟨c9_2_0, c9_2_1, lt9_2, y9_2, -⟩ := hO.k2 2 rfl
  obtain ⟨c9_3_0, c9_3_1, c9_3_2, c9_3_3, c9_3_4, lt9_3, y9_3, -⟩ := hO.k5 3 rfl
  obtain ⟨c9_5_0, c9_5_1, c9_5_2, c9_5_3, c9_5_4, lt9_5, y9_5, -⟩ := hO.k5 5 rfl
  have HO := Lib.hid hO
  clear hO
  go_wp2_with (first | (with_reducible refine Own.stay (fn := Tryz.f3) ?_) | fail)
  try with_reducible refine Own.Stay.mk ?_
  have hO := HO.out
  clear HO c9_1_0 c9_1_1 lt9_1 y9_1 c9_2_0 c9_2_1 lt9_2 y9_2 c9_3_0 c9_3_1 c9_3_2 c9_3_3 c9_3_4 lt9_3 y9_3 c9_5_0 c9_5_1 c9_5_2 c9_5_3 c9_5_4 lt9_5 y9_5
  refine bodyPost_ret (v := .bool true) ?_ rfl ⟨rfl, hO.sub [] (by decide)⟩
  simp [results, Tryz.results3, go_sem]
end Go.Proofs.YtghofdhhhbbaaaaGreatDoor.Use
namespace Go.Proofs.YtghofdhhhbbaaaaGreatDoor.Use
open Go.ChangeShapes Go.WideShapes Go.ChangeAt Go.RowKit Go.Sort Own
set_option linter.unusedVariables false
set_option maxRecDepth 100000 in
set_option maxHeartbeats 1000000 in
theorem law8w (m t : Int) (l r : Bool) (w : World) (hg0 : w.cell? ⟨0, 0, none⟩ = some (.int .u32 4294967295)) (hg1 : w.cell? ⟨0, 1, none⟩ = some (.int .u32 4294967295)) : Calls Tryz.prog 3 #[.int .i64 m, .int .i64 t, .bool l, .bool r] w fun e w' => e = .returned (.bool true) ∧ Below w.heap.size w w' := by
  by_cases h0 : m < 0
  · go_enter Tryz.func3, Tryz.ntmps3
    go_wp2
    all_goals (go_ret; exact ⟨rfl, Below.refl _ _⟩)
  by_cases h1 : (4096 : Int) < m
  · go_enter Tryz.func3, Tryz.ntmps3
    go_wp2
    all_goals (go_ret; exact ⟨rfl, Below.refl _ _⟩)
  by_cases h2 : t < 0
  · go_enter Tryz.func3, Tryz.ntmps3
    go_wp2
    all_goals (go_ret; exact ⟨rfl, Below.refl _ _⟩)
  by_cases h3 : (4096 : Int) < t
  · go_enter Tryz.func3, Tryz.ntmps3
    go_wp2
    all_goals (go_ret; exact ⟨rfl, Below.refl _ _⟩)
  obtain ⟨mm, rfl⟩ : ∃ b : Nat, m = (b : Int) := ⟨m.toNat, by omega⟩
  obtain ⟨tt, rfl⟩ : ∃ b : Nat, t = (b : Int) := ⟨t.toNat, by omega⟩
  have hm : mm ≤ 4096 := by omega
  have ht : tt ≤ 4096 := by omega
  cases l
  · cases r
    · exact Calls.mono (law8ff mm tt w w _ (Own.start w) hm ht hg0 hg1) (fun e w' q => ⟨q.1, q.2.below⟩)
    · exact Calls.mono (law8ft mm tt w w _ (Own.start w) hm ht hg0 hg1) (fun e w' q => ⟨q.1, q.2.below⟩)
  · cases r
    · exact Calls.mono (law8tf mm tt w w _ (Own.start w) hm ht hg0 hg1) (fun e w' q => ⟨q.1, q.2.below⟩)
    · exact Calls.mono (law8tt mm tt w w _ (Own.start w) hm ht hg0 hg1) (fun e w' q => ⟨q.1, q.2.below⟩)

end Go.Proofs.YtghofdhhhbbaaaaGreatDoor.Use
