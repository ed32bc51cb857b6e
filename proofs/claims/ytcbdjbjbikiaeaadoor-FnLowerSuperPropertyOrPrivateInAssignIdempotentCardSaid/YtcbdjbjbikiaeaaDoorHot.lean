/- A dot, an index that is lowered. No condition. -/
import Derived.Test.YtcbdjbjbikiaeaaDoorStr
import Derived.Test.YtcbdjbjbikiaeaaDoorUni
import Derived.Test.YtcbdjbjbikiaeaaDoorItm
import Derived.Test.YtcbdjbjbikiaeaaDoorOwn
import Derived.Test.YtcbdjbjbikiaeaaDoorOwnK
import Derived.Test.YtcbdjbjbikiaeaaDoorLoop
import Derived.Test.YtcbdjbjbikiaeaaDoorApp
import Derived.Test.YtcbdjbjbikiaeaaDoorDeepCells
import Derived.Test.YtcbdjbjbikiaeaaDoorRows
import Derived.Test.YtcbdjbjbikiaeaaDoorDead
namespace Go.Proofs.YtcbdjbjbikiaeaaDoor.Use
open Go.ChangeShapes Go.WideShapes Go.ChangeAt Go.RowKit Go.Sort Own
set_option linter.unusedVariables false
def rHda0E (d : Nat) (kx : Nat) (tl : Int) (nl : Int) (nm : ByteArray) (B1_2 : Nat) : Nat → Rega.Atoms → Value
  | 0, α => .pointer (some ⟨d, 0, none⟩)
  | 1, α => .pointer (some ⟨d, 0, none⟩)
  | 2, α => .pointer (some ⟨d, 3, none⟩)
  | 3, α => .agg #[.int .i32 nl]
  | 4, α => .pointer (some ⟨d, 0, none⟩)
  | 5, α => .pointer (some ⟨d, 0, none⟩)
  | 6, α => .pointer (some ⟨d, 2, none⟩)
  | 7, α => .string nm
  | 8, α => .slice (some ⟨α 8, 0, none⟩) (α 1008) (α 2008)
  | 9, α => .agg #[.slice (some ⟨α 8, 0, none⟩) (α 1008) (α 2008), .int .i32 0, .bool false, .bool false, .bool false]
  | 10, α => .pointer (some ⟨α 10, 0, none⟩)
  | 11, α => .iface 50 (.pointer (some ⟨α 10, 0, none⟩))
  | 12, α => .agg #[.iface 50 (.pointer (some ⟨α 10, 0, none⟩)), .int .i32 nl]
  | 13, α => .pointer (some ⟨α 13, 0, none⟩)
  | 14, α => undef
  | _, _ => undef
def rHda0Anc : Nat → List Nat
  | 1 => [0]
  | 2 => [0, 1]
  | 3 => [0, 1, 2]
  | 5 => [4]
  | 6 => [4, 5]
  | 7 => [4, 5, 6]
  | 8 => [4, 5, 6, 7]
  | 9 => [4, 5, 6, 7, 8]
  | 10 => [4, 5, 6, 7, 8, 9]
  | 11 => [4, 5, 6, 7, 8, 9, 10]
  | 12 => [0, 1, 2, 3, 4, 5, 6, 7, 8, 9, 10, 11]
  | 14 => [0, 1, 2, 3, 4, 5, 6, 7, 8, 9, 10, 11, 12, 13]
  | _ => []
def rHda0Trn : Nat → List Nat
  | 14 => [13]
  | _ => []
def rHda0Cnt : List (Nat × Nat) := [(10, 1), (13, 1)]
def rHda0T13 (d : Nat) (kx : Nat) (tl : Int) (nl : Int) (nm : ByteArray) (B1_2 : Nat) (L9 : Nat → Bool) (α : Rega.Atoms) : Rw := if L9 14 = true then row (α 13) 30 #[.iface 50 (.pointer (some ⟨α 10, 0, none⟩)), .int .i32 nl] else row (α 13) 30 #[.nilIface, .int .i32 0]
def rHda0R (d : Nat) (kx : Nat) (tl : Int) (nl : Int) (nm : ByteArray) (B1_2 : Nat) (L9 : Nat → Bool) (α : Rega.Atoms) (ix9 : Nat) : Rw := if ix9 = 999 then row (B1_2) 30 #[.iface 244 (.pointer (some ⟨kx, 0, none⟩)), .int .i32 tl] else if ix9 = 10 then row (α 10) 214 #[.slice (some ⟨α 8, 0, none⟩) (α 1008) (α 2008), .int .i32 0, .bool false, .bool false, .bool false] else if ix9 = 13 then rHda0T13 d kx tl nl nm B1_2 L9 α else (0, .map #[] 0)
theorem rHda0_he (d : Nat) (kx : Nat) (tl : Int) (nl : Int) (nm : ByteArray) (B1_2 : Nat) : ∀ kk α α', (∀ j, (j % 1000 = kk ∨ j % 1000 ∈ rHda0Anc kk) → α j = α' j) → rHda0E d kx tl nl nm B1_2 kk α = rHda0E d kx tl nl nm B1_2 kk α' := by
  intro kk α α' h
  match kk with
  | 0 => rfl
  | 1 => rfl
  | 2 => rfl
  | 3 => rfl
  | 4 => rfl
  | 5 => rfl
  | 6 => rfl
  | 7 => rfl
  | 8 => simp only [rHda0E, h 8 (Or.inl rfl), h 1008 (Or.inl rfl), h 2008 (Or.inl rfl)]
  | 9 => simp only [rHda0E, h 8 (Or.inr (by decide)), h 1008 (Or.inr (by decide)), h 2008 (Or.inr (by decide))]
  | 10 => simp only [rHda0E, h 10 (Or.inl rfl)]
  | 11 => simp only [rHda0E, h 10 (Or.inr (by decide))]
  | 12 => simp only [rHda0E, h 10 (Or.inr (by decide))]
  | 13 => simp only [rHda0E, h 13 (Or.inl rfl)]
  | 14 => rfl
  | n + 15 => rfl
theorem rHda0_st (d : Nat) (kx : Nat) (tl : Int) (nl : Int) (nm : ByteArray) (B1_2 : Nat) : Stable rHda0Cnt 1 rHda0Anc rHda0Trn (rHda0R d kx tl nl nm B1_2) := by
  intro k9 L9 α α' ix9 hk hcl hα hact ht
  have hp := act_places hact
  replace hp : ix9 ∈ [999, 10, 13] := hp
  simp only [List.mem_cons, List.not_mem_nil, or_false] at hp
  rcases hp with rfl | rfl | rfl
  · rfl
  · have e0 : L9 10 = true := act_lt hact (by decide)
    show row (α' 10) 214 #[.slice (some ⟨α' 8, 0, none⟩) (α' 1008) (α' 2008), .int .i32 0, .bool false, .bool false, .bool false] = row (α 10) 214 #[.slice (some ⟨α 8, 0, none⟩) (α 1008) (α 2008), .int .i32 0, .bool false, .bool false, .bool false]
    simp only [hα 8 (ne_ran hk (hcl 10 e0 8 (by decide))), hα 10 (ne_ran hk e0), hα 1008 (ne_ran hk (hcl 10 e0 8 (by decide))), hα 2008 (ne_ran hk (hcl 10 e0 8 (by decide)))]
  · have e0 : L9 13 = true := act_lt hact (by decide)
    show rHda0T13 d kx tl nl nm B1_2 (Rega.ran L9 k9) α' = rHda0T13 d kx tl nl nm B1_2 L9 α
    unfold rHda0T13
    have n14 : 14 ≠ k9 := fun e => ht (by rw [← e]; decide)
    rw [ran_ne n14]
    by_cases e14 : L9 14 = true
    · first | rw [if_pos e14, if_pos e14] | rw [if_pos e14]
      try simp only [hα 10 (ne_ran hk (hcl 14 e14 10 (by decide))), hα 13 (ne_ran hk (hcl 14 e14 13 (by decide)))]
    first | rw [if_neg e14, if_neg e14] | rw [if_neg e14]
    try simp only [hα 13 (ne_ran hk e0)]
def hotdPost (pb : Nat) (PC : Array Value) (mp cr : Nat) (r s : Bool) (loc : Int) (d kx : Nat) (tl nl : Int) (nm : ByteArray) (w0 : World) (X : Nat → Obj → Prop) (e : Ending) (w' : World) : Prop :=
  ∃ ca : Nat, ∃ dd : Nat, e = .returned (.tuple #[.agg #[.iface 40 (.pointer (some ⟨dd, 0, none⟩)), .int .i32 loc], .bool true]) ∧ Own w0 w' [row (pb) 206 PC, ((mp, .map #[⟨.string ⟨#[95, 95, 115, 117, 112, 101, 114, 87, 114, 97, 112, 112, 101, 114]⟩, .agg #[.int .i32 0, .int .u32 0, .int .u32 2], 0⟩, ⟨.string ⟨#[95, 95, 115, 117, 112, 101, 114, 71, 101, 116]⟩, .agg #[.int .i32 0, .int .u32 0, .int .u32 3], 1⟩, ⟨.string ⟨#[95, 95, 112, 114, 105, 118, 97, 116, 101, 87, 114, 97, 112, 112, 101, 114]⟩, .agg #[.int .i32 0, .int .u32 0, .int .u32 4], 2⟩] 3) : Rw), row (cr) 68 #[.int .u32 0, .int .u32 1], row (dd) 44 #[.iface 52 (.pointer (some ⟨ca, 0, none⟩)), .int .i32 loc, .string ⟨#[95]⟩, .int .i32 loc, .int .u8 0, .bool false, .bool false, .bool false]] X
set_option maxRecDepth 100000 in
set_option maxHeartbeats 2000000 in
theorem hotd (pb : Nat) (PC : Array Value) (mp cr : Nat) (r s : Bool) (loc : Int) (d kx : Nat) (tl nl : Int) (nm : ByteArray) (w0 w : World) (X : Nat → Obj → Prop) (hO : Own w0 w [row (pb) 206 PC, ((mp, .map #[⟨.string ⟨#[95, 95, 115, 117, 112, 101, 114, 87, 114, 97, 112, 112, 101, 114]⟩, .agg #[.int .i32 0, .int .u32 0, .int .u32 2], 0⟩, ⟨.string ⟨#[95, 95, 115, 117, 112, 101, 114, 71, 101, 116]⟩, .agg #[.int .i32 0, .int .u32 0, .int .u32 3], 1⟩, ⟨.string ⟨#[95, 95, 112, 114, 105, 118, 97, 116, 101, 87, 114, 97, 112, 112, 101, 114]⟩, .agg #[.int .i32 0, .int .u32 0, .int .u32 4], 2⟩] 3) : Rw), row (cr) 68 #[.int .u32 0, .int .u32 1]] X) (hD : Dead PC mp cr r s) (hl : PC[338]? = some (.bool true)) (hlen : nm.size ≤ 1048576) (hxd : X d (.cells #[.iface 244 (.pointer (some ⟨kx, 0, none⟩)), .int .i32 tl, .string nm, .int .i32 nl, .int .u8 0, .bool false, .bool false, .bool false] 44 (0, 0))) :
    Calls Tryd.prog 35 #[.pointer (some ⟨pb, 0, none⟩), .agg #[.iface 40 (.pointer (some ⟨d, 0, none⟩)), .int .i32 loc]] w (hotdPost pb PC mp cr r s loc d kx tl nl nm w0 X) := by
  go_enter Tryd.func35, Tryd.ntmps35
  obtain ⟨ix9, hix9, hax9, hjx9⟩ := hO.ix
  have ix9_0 : ix9 pb = 0 := hjx9 0 _ _ rfl
  have ix9_1 : ix9 mp = 1 := hjx9 1 _ _ rfl
  have ix9_2 : ix9 cr = 2 := hjx9 2 _ _ rfl
  clear hjx9
  have c9_0_32 : w.cell? ⟨pb, 32, none⟩ = some (.bool false) := hO.cell 0 rfl (32) (hD.ts)
  have c9_0_95 : w.cell? ⟨pb, 95, none⟩ = some (.bool r) := hO.cell 0 rfl (95) (hD.rep)
  have c9_0_96 : w.cell? ⟨pb, 96, none⟩ = some (.bool s) := hO.cell 0 rfl (96) (hD.stat)
  have c9_0_97 : w.cell? ⟨pb, 97, none⟩ = some (.pointer (some ⟨cr, 0, none⟩)) := hO.cell 0 rfl (97) (hD.cls)
  have c9_0_117 : w.cell? ⟨pb, 117, none⟩ = some (.map (some mp)) := hO.cell 0 rfl (117) (hD.imp)
  have c9_0_338 : w.cell? ⟨pb, 338, none⟩ = some (.bool true) := hO.cell 0 rfl (338) (hl)
  have c9_0_350 : w.cell? ⟨pb, 350, none⟩ = some (.bool true) := hO.cell 0 rfl (350) (hD.dead)
  have lt9_0 : pb < w.heap.size := hO.lt 0 rfl
  have y9_0 : ∀ o, w.frozen? ⟨pb, o, none⟩ = false := hO.free 0 rfl
  obtain ⟨c9_2_0, c9_2_1, lt9_2, y9_2, -⟩ := hO.k2 2 rfl
  have HO := Lib.hid hO
  clear hO
  have fd0 : w.cell? ⟨d, 0, none⟩ = some (.iface 244 (.pointer (some ⟨kx, 0, none⟩))) := Base.RowAt.cell (show Base.RowAt w d 44 #[.iface 244 (.pointer (some ⟨kx, 0, none⟩)), .int .i32 tl, .string nm, .int .i32 nl, .int .u8 0, .bool false, .bool false, .bool false] from (HO.out.frame _ _ hxd).2.1) rfl
  have fd1 : w.cell? ⟨d, 1, none⟩ = some (.int .i32 tl) := Base.RowAt.cell (show Base.RowAt w d 44 #[.iface 244 (.pointer (some ⟨kx, 0, none⟩)), .int .i32 tl, .string nm, .int .i32 nl, .int .u8 0, .bool false, .bool false, .bool false] from (HO.out.frame _ _ hxd).2.1) rfl
  have fd2 : w.cell? ⟨d, 2, none⟩ = some (.string nm) := Base.RowAt.cell (show Base.RowAt w d 44 #[.iface 244 (.pointer (some ⟨kx, 0, none⟩)), .int .i32 tl, .string nm, .int .i32 nl, .int .u8 0, .bool false, .bool false, .bool false] from (HO.out.frame _ _ hxd).2.1) rfl
  have fd3 : w.cell? ⟨d, 3, none⟩ = some (.int .i32 nl) := Base.RowAt.cell (show Base.RowAt w d 44 #[.iface 244 (.pointer (some ⟨kx, 0, none⟩)), .int .i32 tl, .string nm, .int .i32 nl, .int .u8 0, .bool false, .bool false, .bool false] from (HO.out.frame _ _ hxd).2.1) rfl
  have fd4 : w.cell? ⟨d, 4, none⟩ = some (.int .u8 0) := Base.RowAt.cell (show Base.RowAt w d 44 #[.iface 244 (.pointer (some ⟨kx, 0, none⟩)), .int .i32 tl, .string nm, .int .i32 nl, .int .u8 0, .bool false, .bool false, .bool false] from (HO.out.frame _ _ hxd).2.1) rfl
  have fd5 : w.cell? ⟨d, 5, none⟩ = some (.bool false) := Base.RowAt.cell (show Base.RowAt w d 44 #[.iface 244 (.pointer (some ⟨kx, 0, none⟩)), .int .i32 tl, .string nm, .int .i32 nl, .int .u8 0, .bool false, .bool false, .bool false] from (HO.out.frame _ _ hxd).2.1) rfl
  have fd6 : w.cell? ⟨d, 6, none⟩ = some (.bool false) := Base.RowAt.cell (show Base.RowAt w d 44 #[.iface 244 (.pointer (some ⟨kx, 0, none⟩)), .int .i32 tl, .string nm, .int .i32 nl, .int .u8 0, .bool false, .bool false, .bool false] from (HO.out.frame _ _ hxd).2.1) rfl
  have fd7 : w.cell? ⟨d, 7, none⟩ = some (.bool false) := Base.RowAt.cell (show Base.RowAt w d 44 #[.iface 244 (.pointer (some ⟨kx, 0, none⟩)), .int .i32 tl, .string nm, .int .i32 nl, .int .u8 0, .bool false, .bool false, .bool false] from (HO.out.frame _ _ hxd).2.1) rfl
  have fdl : d < w.heap.size := Base.block_of_cell fd0
  go_wp2_with (first | (with_reducible refine Own.stay (fn := Tryd.f35) ?_) | (first | (go_at_call 34; go_in)))
  try with_reducible refine Own.Stay.mk ?_
  have hO := HO.out
  clear HO hix9 hax9 ix9_0 ix9_1 ix9_2 ix9 fd0 fd1 fd2 fd3 fd4 fd5 fd6 fd7 fdl c9_0_32 c9_0_95 c9_0_96 c9_0_97 c9_0_117 c9_0_338 c9_0_350 lt9_0 y9_0 c9_2_0 c9_2_1 lt9_2 y9_2
  generalize hW : World.alloc _ _ = W2
  have hN : Own w0 W2 [row (w.heap.size + 1 + 1) 30 #[.iface 244 (.pointer (some ⟨kx, 0, none⟩)), .int .i32 tl], row (w.heap.size + 1) 30 #[.nilIface, .int .i32 0], row (w.heap.size) 30 #[.iface 40 (.pointer (some ⟨d, 0, none⟩)), .int .i32 loc], row (pb) 206 PC, ((mp, .map #[⟨.string ⟨#[95, 95, 115, 117, 112, 101, 114, 87, 114, 97, 112, 112, 101, 114]⟩, .agg #[.int .i32 0, .int .u32 0, .int .u32 2], 0⟩, ⟨.string ⟨#[95, 95, 115, 117, 112, 101, 114, 71, 101, 116]⟩, .agg #[.int .i32 0, .int .u32 0, .int .u32 3], 1⟩, ⟨.string ⟨#[95, 95, 112, 114, 105, 118, 97, 116, 101, 87, 114, 97, 112, 112, 101, 114]⟩, .agg #[.int .i32 0, .int .u32 0, .int .u32 4], 2⟩] 3) : Rw), row (cr) 68 #[.int .u32 0, .int .u32 1]] X := by
    rw [← hW]
    exact (((hO).alloc' _ (w.heap.size) (by simp)).alloc' _ (w.heap.size + 1) (by simp)).alloc' _ (w.heap.size + 1 + 1) (by simp)
  clear hW hO
  generalize w.heap.size + 1 + 1 = B1_2 at hN ⊢
  generalize w.heap.size + 1 = B1_1 at hN ⊢
  generalize w.heap.size = B1 at hN ⊢
  have hO := hN
  clear hN
  have hL := hO.apart
  have hX := hO.apartX
  have HL := Lib.hid hL
  have HX := Lib.hid hX
  clear hL hX
  have hP9 := hO.pick [0] (by decide)
  generalize hX9_3 : Own.Rest _ _ X = X9_3 at hP9
  replace hP9 : Own w0 W2 [row (B1_2) 30 #[.iface 244 (.pointer (some ⟨kx, 0, none⟩)), .int .i32 tl]] X9_3 := hP9
  clear hO
  have hO := hP9
  clear hP9
  have hxr4 : X9_3 d (.cells #[.iface 244 (.pointer (some ⟨kx, 0, none⟩)), .int .i32 tl, .string nm, .int .i32 nl, .int .u8 0, .bool false, .bool false, .bool false] 44 (0, 0)) := by rw [← hX9_3]; exact Or.inl hxd
  have st9 := rHda0_st d kx tl nl nm B1_2
  let R9 := rHda0R d kx tl nl nm B1_2
  refine wp_region_own (e := rHda0E d kx tl nl nm B1_2) (anc := rHda0Anc) (G := (fun L9 α u9 => OwnF w0 u9 (act rHda0Cnt 1 L9) (rHda0R d kx tl nl nm B1_2 L9 α) X9_3)) (by kernel_rfl) (by kernel_rfl) (by kernel_rfl) (by kernel_rfl) (rHda0_he d kx tl nl nm B1_2) ?_ (RunsAll.all ?_) ?_
  · have hp : ∀ i, act rHda0Cnt 1 (fun _ => false) i → i ∈ [999] := by
      intro i hi
      have h9 : i % 1000 = 999 := by
        by_cases h : i % 1000 = 999
        · exact h
        · exact absurd (act_lt hi h) (by simp)
      unfold act at hi
      rw [if_pos h9] at hi
      simp only [List.mem_cons, List.not_mem_nil, or_false]
      omega
    refine hO.drew.family (fun i hi => ?_) (fun i j hi hj hij => ?_)
    · have := hp i hi
      simp only [List.mem_cons, List.not_mem_nil, or_false] at this
      subst this
      rfl
    · have h1 := hp i hi
      have h2 := hp j hj
      simp only [List.mem_cons, List.not_mem_nil, or_false] at h1 h2
      omega
  · refine ⟨?_, ?_, ?_, ?_, ?_, ?_, ?_, ?_, ?_, ?_, ?_, ?_, ?_, ?_, ?_, trivial⟩
    · intro L9 α a9 u9 K9 hL hcl hA hG hS h0 h1 hK
      replace hL : L9 0 = false := hL
      have q10 : a9.tmps[10]? = some (.pointer (some ⟨d, 0, none⟩)) := (h0 10 (by kernel_rfl)).trans rfl
      have s10 := Rega.eval_of q10
      go_simp
      exact hK _ α _ (fun _ _ => rfl) rfl (step_same (st9) hL hcl rfl rfl hG)
    · intro L9 α a9 u9 K9 hL hcl hA hG hS h0 h1 hK
      replace hL : L9 1 = false := hL
      have q55 : a9.tmps[55]? = some (.pointer (some ⟨d, 0, none⟩)) := hS 0 55 (by decide) rfl (by show 55 < 250; decide)
      have s55 := Rega.eval_of q55
      go_simp
      exact hK _ α _ (fun _ _ => rfl) rfl (step_same (st9) hL hcl rfl rfl hG)
    · intro L9 α a9 u9 K9 hL hcl hA hG hS h0 h1 hK
      replace hL : L9 2 = false := hL
      have q56 : a9.tmps[56]? = some (.pointer (some ⟨d, 0, none⟩)) := hS 1 56 (by decide) rfl (by show 56 < 250; decide)
      have s56 := Rega.eval_of q56
      go_simp
      exact hK _ α _ (fun _ _ => rfl) rfl (step_same (st9) hL hcl rfl rfl hG)
    · intro L9 α a9 u9 K9 hL hcl hA hG hS h0 h1 hK
      replace hL : L9 3 = false := hL
      have q57 : a9.tmps[57]? = some (.pointer (some ⟨d, 3, none⟩)) := hS 2 57 (by decide) rfl (by show 57 < 250; decide)
      have s57 := Rega.eval_of q57
      have c0 : u9.cell? ⟨d, 3, none⟩ = some (.int .i32 nl) := Base.RowAt.cell (show Base.RowAt u9 d 44 #[.iface 244 (.pointer (some ⟨kx, 0, none⟩)), .int .i32 tl, .string nm, .int .i32 nl, .int .u8 0, .bool false, .bool false, .bool false] from (hG.frame _ _ hxr4).2.1) rfl
      go_simp
      exact hK _ α _ (fun _ _ => rfl) rfl (step_same (st9) hL hcl rfl rfl hG)
    · intro L9 α a9 u9 K9 hL hcl hA hG hS h0 h1 hK
      replace hL : L9 4 = false := hL
      have q10 : a9.tmps[10]? = some (.pointer (some ⟨d, 0, none⟩)) := (h0 10 (by kernel_rfl)).trans rfl
      have s10 := Rega.eval_of q10
      go_simp
      exact hK _ α _ (fun _ _ => rfl) rfl (step_same (st9) hL hcl rfl rfl hG)
    · intro L9 α a9 u9 K9 hL hcl hA hG hS h0 h1 hK
      replace hL : L9 5 = false := hL
      have q59 : a9.tmps[59]? = some (.pointer (some ⟨d, 0, none⟩)) := hS 4 59 (by decide) rfl (by show 59 < 250; decide)
      have s59 := Rega.eval_of q59
      go_simp
      exact hK _ α _ (fun _ _ => rfl) rfl (step_same (st9) hL hcl rfl rfl hG)
    · intro L9 α a9 u9 K9 hL hcl hA hG hS h0 h1 hK
      replace hL : L9 6 = false := hL
      have q60 : a9.tmps[60]? = some (.pointer (some ⟨d, 0, none⟩)) := hS 5 60 (by decide) rfl (by show 60 < 250; decide)
      have s60 := Rega.eval_of q60
      go_simp
      exact hK _ α _ (fun _ _ => rfl) rfl (step_same (st9) hL hcl rfl rfl hG)
    · intro L9 α a9 u9 K9 hL hcl hA hG hS h0 h1 hK
      replace hL : L9 7 = false := hL
      have q61 : a9.tmps[61]? = some (.pointer (some ⟨d, 2, none⟩)) := hS 6 61 (by decide) rfl (by show 61 < 250; decide)
      have s61 := Rega.eval_of q61
      have c0 : u9.cell? ⟨d, 2, none⟩ = some (.string nm) := Base.RowAt.cell (show Base.RowAt u9 d 44 #[.iface 244 (.pointer (some ⟨kx, 0, none⟩)), .int .i32 tl, .string nm, .int .i32 nl, .int .u8 0, .bool false, .bool false, .bool false] from (hG.frame _ _ hxr4).2.1) rfl
      go_simp
      exact hK _ α _ (fun _ _ => rfl) rfl (step_same (st9) hL hcl rfl rfl hG)
    · intro L9 α a9 u9 K9 hL hcl hA hG hS h0 h1 hK
      replace hL : L9 8 = false := hL
      have q62 : a9.tmps[62]? = some (.string nm) := hS 7 62 (by decide) rfl (by show 62 < 250; decide)
      have s62 := Rega.eval_of q62
      go_simp
      have hM : ∀ i, i ∈ [] → act rHda0Cnt 1 L9 i := by intro i hi; simp at hi
      have hP : Own w0 u9 [] _ := hG.pick [] (by decide) (by simp)
      clear hM
      refine Calls.mono (toU16 nm _ _ _ hP hlen) ?_
      rintro e9 u1 ⟨b0, b1, b2, rfl, hQ⟩
      obtain ⟨α', hα'⟩ : ∃ α' : Rega.Atoms, α' = (fun j => if j = 8 then b0 else if j = 1008 then b1 else if j = 2008 then b2 else α j) := ⟨_, rfl⟩
      have hα : ∀ j, j % 1000 ≠ 8 → α' j = α j := fun j hj => by rw [hα']; simp only []; rw [if_neg (by omega), if_neg (by omega), if_neg (by omega)]
      have hb0 : α' 8 = b0 := by rw [hα']; rfl
      have hb1 : α' 1008 = b1 := by rw [hα']; rfl
      have hb2 : α' 2008 = b2 := by rw [hα']; rfl
      skip
      refine hK _ α' _ hα ?_ (step_call (st9) hL hcl hα [] [] (by decide) (by decide) (by decide) (M := _) ?_ hG hQ)
      · show _ = (.slice (some ⟨α' 8, 0, none⟩) (α' 1008) (α' 2008) : Value)
        simp only [hb0, hb1, hb2]
      · rfl
    · intro L9 α a9 u9 K9 hL hcl hA hG hS h0 h1 hK
      replace hL : L9 9 = false := hL
      have q63 : a9.tmps[63]? = some (.slice (some ⟨α 8, 0, none⟩) (α 1008) (α 2008)) := hS 8 63 (by decide) rfl (by show 63 < 250; decide)
      have s63 := Rega.eval_of q63
      go_simp
      exact hK _ α _ (fun _ _ => rfl) rfl (step_same (st9) hL hcl rfl rfl hG)
    · intro L9 α a9 u9 K9 hL hcl hA hG hS h0 h1 hK
      replace hL : L9 10 = false := hL
      have q64 : a9.tmps[64]? = some (.agg #[.slice (some ⟨α 8, 0, none⟩) (α 1008) (α 2008), .int .i32 0, .bool false, .bool false, .bool false]) := hS 9 64 (by decide) rfl (by show 64 < 250; decide)
      have s64 := Rega.eval_of q64
      go_simp
      exact hK _ (fun j => if j = 10 then u9.heap.size else α j) _ (fun j hj => if_neg (fun e => hj (by rw [e]))) rfl (step_alloc (st9) hL hcl rfl rfl (by decide) _ rfl hG)
    · intro L9 α a9 u9 K9 hL hcl hA hG hS h0 h1 hK
      replace hL : L9 11 = false := hL
      have q65 : a9.tmps[65]? = some (.pointer (some ⟨α 10, 0, none⟩)) := hS 10 65 (by decide) rfl (by show 65 < 250; decide)
      have s65 := Rega.eval_of q65
      go_simp
      exact hK _ α _ (fun _ _ => rfl) rfl (step_same (st9) hL hcl rfl rfl hG)
    · intro L9 α a9 u9 K9 hL hcl hA hG hS h0 h1 hK
      replace hL : L9 12 = false := hL
      have q58 : a9.tmps[58]? = some (.agg #[.int .i32 nl]) := hS 3 58 (by decide) rfl (by show 58 < 250; decide)
      have s58 := Rega.eval_of q58
      have q66 : a9.tmps[66]? = some (.iface 50 (.pointer (some ⟨α 10, 0, none⟩))) := hS 11 66 (by decide) rfl (by show 66 < 250; decide)
      have s66 := Rega.eval_of q66
      go_simp
      exact hK _ α _ (fun _ _ => rfl) rfl (step_same (st9) hL hcl rfl rfl hG)
    · intro L9 α a9 u9 K9 hL hcl hA hG hS h0 h1 hK
      replace hL : L9 13 = false := hL
      go_simp
      have e1 : R9 (Rega.ran L9 13) (fun j => if j = 13 then u9.heap.size else α j) 13 = row (u9.heap.size) 30 #[.nilIface, .int .i32 0] := by
        show rHda0T13 d kx tl nl nm B1_2 (Rega.ran L9 13) (fun j => if j = 13 then u9.heap.size else α j) = _
        unfold rHda0T13
        exact ((if_neg (fun e => (fun e => by have := hcl 14 e 13 (by decide); rw [hL] at this; cases this) ((ran_ne (by decide)).symm.trans e))).trans rfl)
      exact hK _ (fun j => if j = 13 then u9.heap.size else α j) _ (fun j hj => if_neg (fun e => hj (by rw [e]))) rfl (step_alloc (st9) hL hcl rfl rfl (by decide) _ e1 hG)
    · intro L9 α a9 u9 K9 hL hcl hA hG hS h0 h1 hK
      replace hL : L9 14 = false := hL
      have q11 : a9.tmps[11]? = some (.pointer (some ⟨α 13, 0, none⟩)) := hS 13 11 (by decide) rfl (by show 11 < 250; decide)
      have s11 := Rega.eval_of q11
      have q67 : a9.tmps[67]? = some (.agg #[.iface 50 (.pointer (some ⟨α 10, 0, none⟩)), .int .i32 nl]) := hS 12 67 (by decide) rfl (by show 67 < 250; decide)
      have s67 := Rega.eval_of q67
      have e0 : R9 L9 α 13 = row (α 13) 30 #[.nilIface, .int .i32 0] := by
        show rHda0T13 d kx tl nl nm B1_2 L9 α = _
        unfold rHda0T13
        rw [if_neg (by rw [hL]; decide)]
      have hr := hG.rowAt 13 (act_new 13 rfl (hA 13 (by decide))) e0
      have c0 : u9.cell? ⟨α 13, 0, none⟩ = some (.nilIface) := hr.cell rfl
      have y0 : u9.frozen? ⟨α 13, 0, none⟩ = false := hr.free (0)
      have c1 : u9.cell? ⟨α 13, 1, none⟩ = some (.int .i32 0) := hr.cell rfl
      have y1 : u9.frozen? ⟨α 13, 1, none⟩ = false := hr.free (1)
      clear hr
      have E0 := Lib.hid e0
      clear e0
      go_simp
      have e1 : R9 (Rega.ran L9 14) α 13 = row (α 13) 30 #[.iface 50 (.pointer (some ⟨α 10, 0, none⟩)), .int .i32 nl] := by
        show rHda0T13 d kx tl nl nm B1_2 (Rega.ran L9 14) α = _
        unfold rHda0T13
        rw [if_pos (show Rega.ran L9 14 14 = true from rfl)]
      exact hK _ α _ (fun _ _ => rfl) rfl (step_sets (st9) hL hcl rfl 13 rfl (act_new 13 rfl (hA 13 (by decide))) E0.out (0) [.iface 50 (.pointer (some ⟨α 10, 0, none⟩)), .int .i32 nl] (e1.trans rfl) hG)
  clear st9
  intro α u hG
  have e0 : R9 (fun k => decide (k < 15)) α 999 = row (B1_2) 30 #[.iface 244 (.pointer (some ⟨kx, 0, none⟩)), .int .i32 tl] := rfl
  have e1 : R9 (fun k => decide (k < 15)) α 10 = row (α 10) 214 #[.slice (some ⟨α 8, 0, none⟩) (α 1008) (α 2008), .int .i32 0, .bool false, .bool false, .bool false] := rfl
  have e2 : R9 (fun k => decide (k < 15)) α 13 = row (α 13) 30 #[.iface 50 (.pointer (some ⟨α 10, 0, none⟩)), .int .i32 nl] := by
    show rHda0T13 d kx tl nl nm B1_2 (fun k => decide (k < 15)) α = _
    unfold rHda0T13
    rw [if_pos (by decide)]
  have hO : Own w0 u [row (B1_2) 30 #[.iface 244 (.pointer (some ⟨kx, 0, none⟩)), .int .i32 tl], row (α 10) 214 #[.slice (some ⟨α 8, 0, none⟩) (α 1008) (α 2008), .int .i32 0, .bool false, .bool false, .bool false], row (α 13) 30 #[.iface 50 (.pointer (some ⟨α 10, 0, none⟩)), .int .i32 nl]] X9_3 := (hG.list [999, 10, 13] (by decide) (act_all (by decide))).conv (by
    show [R9 (fun k => decide (k < 15)) α 999, R9 (fun k => decide (k < 15)) α 10, R9 (fun k => decide (k < 15)) α 13] = _
    rw [e0, e1, e2])
  clear hG e0 e1 e2 R9
  generalize hfr : Rega.frameAt _ _ _ _ _ = fr
  have hdf : fr = ⟨#[.pointer (some ⟨pb, 0, none⟩), .agg #[.iface 40 (.pointer (some ⟨d, 0, none⟩)), .int .i32 loc], undef, .pointer (some ⟨B1, 0, none⟩), .pointer (some ⟨B1_1, 0, none⟩), .bool false, .bool false, undef, undef, undef, .pointer (some ⟨d, 0, none⟩), .pointer (some ⟨α 13, 0, none⟩), undef, undef, undef, undef, undef, undef, undef, undef, undef, undef, undef, undef, undef, undef, undef, .pointer (some ⟨B1, 0, none⟩), .iface 40 (.pointer (some ⟨d, 0, none⟩)), .tuple #[.pointer none, .bool false], .bool false, .pointer none, undef, undef, undef, undef, undef, undef, undef, undef, undef, undef, undef, undef, undef, undef, .tuple #[.pointer (some ⟨d, 0, none⟩), .bool true], .bool true, .pointer (some ⟨d, 0, none⟩), .pointer (some ⟨pb, 0, none⟩), .pointer (some ⟨d, 0, none⟩), .pointer (some ⟨d, 0, none⟩), .pointer (some ⟨d, 0, none⟩), .agg #[.iface 244 (.pointer (some ⟨kx, 0, none⟩)), .int .i32 tl], .bool true, .pointer (some ⟨d, 0, none⟩), .pointer (some ⟨d, 0, none⟩), .pointer (some ⟨d, 3, none⟩), .agg #[.int .i32 nl], .pointer (some ⟨d, 0, none⟩), .pointer (some ⟨d, 0, none⟩), .pointer (some ⟨d, 2, none⟩), .string nm, .slice (some ⟨α 8, 0, none⟩) (α 1008) (α 2008), .agg #[.slice (some ⟨α 8, 0, none⟩) (α 1008) (α 2008), .int .i32 0, .bool false, .bool false, .bool false], .pointer (some ⟨α 10, 0, none⟩), .iface 50 (.pointer (some ⟨α 10, 0, none⟩)), .agg #[.iface 50 (.pointer (some ⟨α 10, 0, none⟩)), .int .i32 nl], undef, undef, undef, undef, undef, undef, undef, undef, undef, undef, undef, undef, undef, undef, undef, undef, undef, undef, undef, undef, undef, undef, undef, undef, undef, undef, undef, undef, undef, undef, undef, undef, undef, undef, undef, undef, undef, undef, undef, undef, undef, undef, undef, undef, undef, undef, undef, undef, undef, undef, undef, undef, undef, undef, undef, undef, undef, undef, undef, undef, undef, undef, undef, undef, undef, undef, undef, undef, undef, undef, undef, undef, undef, undef, undef, undef, undef, undef, undef, undef, undef, undef, undef, undef, undef, undef, undef, undef, undef, undef, undef, undef, undef, undef, undef, undef, undef, undef, undef, undef, undef, undef, undef, undef, undef, undef, undef, undef, undef, undef, undef, undef, undef, undef, undef, undef, undef, undef, undef, undef, undef, undef, undef, undef, undef, undef, undef, undef, undef, undef, undef, undef, undef, undef, undef, undef, undef, undef, undef, undef, undef, undef, undef, undef, undef, undef, undef, undef, undef, undef, undef, undef, undef, undef, undef, undef, undef, undef, undef, undef, undef, undef, undef, undef, undef, undef, undef, undef, undef, undef, undef, undef, undef, undef, undef, undef, undef, undef, undef, undef, undef, undef], []⟩ := by rw [← hfr]; kernel_rfl
  clear hfr
  subst hdf
  generalize α 8 = nd5 at hO ⊢
  generalize α 10 = nd6 at hO ⊢
  generalize α 13 = nd7 at hO ⊢
  generalize α 1008 = nd8 at hO ⊢
  generalize α 2008 = nd9 at hO ⊢
  clear α
  clear hxr4
  subst hX9_3
  have hN : Own w0 u [row (B1_2) 30 #[.iface 244 (.pointer (some ⟨kx, 0, none⟩)), .int .i32 tl], row (nd6) 214 #[.slice (some ⟨nd5, 0, none⟩) (nd8) (nd9), .int .i32 0, .bool false, .bool false, .bool false], row (nd7) 30 #[.iface 50 (.pointer (some ⟨nd6, 0, none⟩)), .int .i32 nl], row (B1_1) 30 #[.nilIface, .int .i32 0], row (B1) 30 #[.iface 40 (.pointer (some ⟨d, 0, none⟩)), .int .i32 loc], row (pb) 206 PC, ((mp, .map #[⟨.string ⟨#[95, 95, 115, 117, 112, 101, 114, 87, 114, 97, 112, 112, 101, 114]⟩, .agg #[.int .i32 0, .int .u32 0, .int .u32 2], 0⟩, ⟨.string ⟨#[95, 95, 115, 117, 112, 101, 114, 71, 101, 116]⟩, .agg #[.int .i32 0, .int .u32 0, .int .u32 3], 1⟩, ⟨.string ⟨#[95, 95, 112, 114, 105, 118, 97, 116, 101, 87, 114, 97, 112, 112, 101, 114]⟩, .agg #[.int .i32 0, .int .u32 0, .int .u32 4], 2⟩] 3) : Rw), row (cr) 68 #[.int .u32 0, .int .u32 1]] X := hO.back HL.out HX.out [1, 2, 3, 4, 5] (by decide) (by decide)
  clear hO HL HX
  have hO := hN
  clear hN
  obtain ⟨c9_0_0, c9_0_1, lt9_0, y9_0, -⟩ := hO.k2 0 rfl
  obtain ⟨c9_1_0, c9_1_1, c9_1_2, c9_1_3, c9_1_4, lt9_1, y9_1, -⟩ := hO.k5 1 rfl
  obtain ⟨c9_2_0, c9_2_1, lt9_2, y9_2, -⟩ := hO.k2 2 rfl
  obtain ⟨c9_3_0, c9_3_1, lt9_3, y9_3, -⟩ := hO.k2 3 rfl
  obtain ⟨c9_4_0, c9_4_1, lt9_4, y9_4, -⟩ := hO.k2 4 rfl
  obtain ⟨c9_7_0, c9_7_1, lt9_7, y9_7, -⟩ := hO.k2 7 rfl
  have HO := Lib.hid hO
  clear hO
  have fd0 : u.cell? ⟨d, 0, none⟩ = some (.iface 244 (.pointer (some ⟨kx, 0, none⟩))) := Base.RowAt.cell (show Base.RowAt u d 44 #[.iface 244 (.pointer (some ⟨kx, 0, none⟩)), .int .i32 tl, .string nm, .int .i32 nl, .int .u8 0, .bool false, .bool false, .bool false] from (HO.out.frame _ _ hxd).2.1) rfl
  have fd1 : u.cell? ⟨d, 1, none⟩ = some (.int .i32 tl) := Base.RowAt.cell (show Base.RowAt u d 44 #[.iface 244 (.pointer (some ⟨kx, 0, none⟩)), .int .i32 tl, .string nm, .int .i32 nl, .int .u8 0, .bool false, .bool false, .bool false] from (HO.out.frame _ _ hxd).2.1) rfl
  have fd2 : u.cell? ⟨d, 2, none⟩ = some (.string nm) := Base.RowAt.cell (show Base.RowAt u d 44 #[.iface 244 (.pointer (some ⟨kx, 0, none⟩)), .int .i32 tl, .string nm, .int .i32 nl, .int .u8 0, .bool false, .bool false, .bool false] from (HO.out.frame _ _ hxd).2.1) rfl
  have fd3 : u.cell? ⟨d, 3, none⟩ = some (.int .i32 nl) := Base.RowAt.cell (show Base.RowAt u d 44 #[.iface 244 (.pointer (some ⟨kx, 0, none⟩)), .int .i32 tl, .string nm, .int .i32 nl, .int .u8 0, .bool false, .bool false, .bool false] from (HO.out.frame _ _ hxd).2.1) rfl
  have fd4 : u.cell? ⟨d, 4, none⟩ = some (.int .u8 0) := Base.RowAt.cell (show Base.RowAt u d 44 #[.iface 244 (.pointer (some ⟨kx, 0, none⟩)), .int .i32 tl, .string nm, .int .i32 nl, .int .u8 0, .bool false, .bool false, .bool false] from (HO.out.frame _ _ hxd).2.1) rfl
  have fd5 : u.cell? ⟨d, 5, none⟩ = some (.bool false) := Base.RowAt.cell (show Base.RowAt u d 44 #[.iface 244 (.pointer (some ⟨kx, 0, none⟩)), .int .i32 tl, .string nm, .int .i32 nl, .int .u8 0, .bool false, .bool false, .bool false] from (HO.out.frame _ _ hxd).2.1) rfl
  have fd6 : u.cell? ⟨d, 6, none⟩ = some (.bool false) := Base.RowAt.cell (show Base.RowAt u d 44 #[.iface 244 (.pointer (some ⟨kx, 0, none⟩)), .int .i32 tl, .string nm, .int .i32 nl, .int .u8 0, .bool false, .bool false, .bool false] from (HO.out.frame _ _ hxd).2.1) rfl
  have fd7 : u.cell? ⟨d, 7, none⟩ = some (.bool false) := Base.RowAt.cell (show Base.RowAt u d 44 #[.iface 244 (.pointer (some ⟨kx, 0, none⟩)), .int .i32 tl, .string nm, .int .i32 nl, .int .u8 0, .bool false, .bool false, .bool false] from (HO.out.frame _ _ hxd).2.1) rfl
  have fdl : d < u.heap.size := Base.block_of_cell fd0
  go_wp2_with (first | (with_reducible refine Own.stay (fn := Tryd.f35) ?_) | (first | (go_at_call 34; go_in)))
  try with_reducible refine Own.Stay.mk ?_
  have hO := HO.out
  clear HO fd0 fd1 fd2 fd3 fd4 fd5 fd6 fd7 fdl c9_0_0 c9_0_1 lt9_0 y9_0 c9_1_0 c9_1_1 c9_1_2 c9_1_3 c9_1_4 lt9_1 y9_1 c9_2_0 c9_2_1 lt9_2 y9_2 c9_3_0 c9_3_1 lt9_3 y9_3 c9_4_0 c9_4_1 lt9_4 y9_4 c9_7_0 c9_7_1 lt9_7 y9_7
  have hL := hO.apart
  have hX := hO.apartX
  have HL := Lib.hid hL
  have HX := Lib.hid hX
  clear hL hX
  have hP9 := hO.pick [5, 6, 7] (by decide)
  have T9 := supWrap pb PC mp cr r s loc 50 nd6 nl _ _ _ hP9 hD
  refine Calls.mono T9 ?_
  clear hP9 T9
  rintro e uw10 ⟨nd11, nd12, rfl, hQ⟩
  have hN : Own w0 uw10 [row (pb) 206 PC, ((mp, .map #[⟨.string ⟨#[95, 95, 115, 117, 112, 101, 114, 87, 114, 97, 112, 112, 101, 114]⟩, .agg #[.int .i32 0, .int .u32 0, .int .u32 2], 0⟩, ⟨.string ⟨#[95, 95, 115, 117, 112, 101, 114, 71, 101, 116]⟩, .agg #[.int .i32 0, .int .u32 0, .int .u32 3], 1⟩, ⟨.string ⟨#[95, 95, 112, 114, 105, 118, 97, 116, 101, 87, 114, 97, 112, 112, 101, 114]⟩, .agg #[.int .i32 0, .int .u32 0, .int .u32 4], 2⟩] 3) : Rw), row (cr) 68 #[.int .u32 0, .int .u32 1], row (nd12) 44 #[.iface 52 (.pointer (some ⟨nd11, 0, none⟩)), .int .i32 loc, .string ⟨#[95]⟩, .int .i32 loc, .int .u8 0, .bool false, .bool false, .bool false], row (B1_2) 30 #[.iface 244 (.pointer (some ⟨kx, 0, none⟩)), .int .i32 tl], row (nd6) 214 #[.slice (some ⟨nd5, 0, none⟩) (nd8) (nd9), .int .i32 0, .bool false, .bool false, .bool false], row (nd7) 30 #[.iface 50 (.pointer (some ⟨nd6, 0, none⟩)), .int .i32 nl], row (B1_1) 30 #[.nilIface, .int .i32 0], row (B1) 30 #[.iface 40 (.pointer (some ⟨d, 0, none⟩)), .int .i32 loc]] X := hQ.back HL.out HX.out [0, 1, 2, 3, 4] (by decide) (by decide)
  clear hQ HL HX hO
  have hO := hN
  clear hN
  obtain ⟨ix9, hix9, hax9, hjx9⟩ := hO.ix
  have ix9_0 : ix9 pb = 0 := hjx9 0 _ _ rfl
  have ix9_1 : ix9 mp = 1 := hjx9 1 _ _ rfl
  have ix9_2 : ix9 cr = 2 := hjx9 2 _ _ rfl
  have ix9_3 : ix9 nd12 = 3 := hjx9 3 _ _ rfl
  have ix9_4 : ix9 B1_2 = 4 := hjx9 4 _ _ rfl
  have ix9_5 : ix9 nd6 = 5 := hjx9 5 _ _ rfl
  have ix9_6 : ix9 nd7 = 6 := hjx9 6 _ _ rfl
  have ix9_7 : ix9 B1_1 = 7 := hjx9 7 _ _ rfl
  have ix9_8 : ix9 B1 = 8 := hjx9 8 _ _ rfl
  clear hjx9
  have c9_0_32 : uw10.cell? ⟨pb, 32, none⟩ = some (.bool false) := hO.cell 0 rfl (32) (hD.ts)
  have c9_0_95 : uw10.cell? ⟨pb, 95, none⟩ = some (.bool r) := hO.cell 0 rfl (95) (hD.rep)
  have c9_0_96 : uw10.cell? ⟨pb, 96, none⟩ = some (.bool s) := hO.cell 0 rfl (96) (hD.stat)
  have c9_0_97 : uw10.cell? ⟨pb, 97, none⟩ = some (.pointer (some ⟨cr, 0, none⟩)) := hO.cell 0 rfl (97) (hD.cls)
  have c9_0_117 : uw10.cell? ⟨pb, 117, none⟩ = some (.map (some mp)) := hO.cell 0 rfl (117) (hD.imp)
  have c9_0_338 : uw10.cell? ⟨pb, 338, none⟩ = some (.bool true) := hO.cell 0 rfl (338) (hl)
  have c9_0_350 : uw10.cell? ⟨pb, 350, none⟩ = some (.bool true) := hO.cell 0 rfl (350) (hD.dead)
  have lt9_0 : pb < uw10.heap.size := hO.lt 0 rfl
  have y9_0 : ∀ o, uw10.frozen? ⟨pb, o, none⟩ = false := hO.free 0 rfl
  obtain ⟨c9_2_0, c9_2_1, lt9_2, y9_2, -⟩ := hO.k2 2 rfl
  obtain ⟨c9_3_0, c9_3_1, c9_3_2, c9_3_3, c9_3_4, c9_3_5, c9_3_6, c9_3_7, lt9_3, y9_3, -⟩ := hO.k8 3 rfl
  obtain ⟨c9_4_0, c9_4_1, lt9_4, y9_4, pl9_4⟩ := hO.k2 4 rfl
  obtain ⟨c9_5_0, c9_5_1, c9_5_2, c9_5_3, c9_5_4, lt9_5, y9_5, -⟩ := hO.k5 5 rfl
  obtain ⟨c9_6_0, c9_6_1, lt9_6, y9_6, pl9_6⟩ := hO.k2 6 rfl
  obtain ⟨c9_7_0, c9_7_1, lt9_7, y9_7, pl9_7⟩ := hO.k2 7 rfl
  obtain ⟨c9_8_0, c9_8_1, lt9_8, y9_8, pl9_8⟩ := hO.k2 8 rfl
  have HO := Lib.hid hO
  clear hO
  have fd0 : uw10.cell? ⟨d, 0, none⟩ = some (.iface 244 (.pointer (some ⟨kx, 0, none⟩))) := Base.RowAt.cell (show Base.RowAt uw10 d 44 #[.iface 244 (.pointer (some ⟨kx, 0, none⟩)), .int .i32 tl, .string nm, .int .i32 nl, .int .u8 0, .bool false, .bool false, .bool false] from (HO.out.frame _ _ hxd).2.1) rfl
  have fd1 : uw10.cell? ⟨d, 1, none⟩ = some (.int .i32 tl) := Base.RowAt.cell (show Base.RowAt uw10 d 44 #[.iface 244 (.pointer (some ⟨kx, 0, none⟩)), .int .i32 tl, .string nm, .int .i32 nl, .int .u8 0, .bool false, .bool false, .bool false] from (HO.out.frame _ _ hxd).2.1) rfl
  have fd2 : uw10.cell? ⟨d, 2, none⟩ = some (.string nm) := Base.RowAt.cell (show Base.RowAt uw10 d 44 #[.iface 244 (.pointer (some ⟨kx, 0, none⟩)), .int .i32 tl, .string nm, .int .i32 nl, .int .u8 0, .bool false, .bool false, .bool false] from (HO.out.frame _ _ hxd).2.1) rfl
  have fd3 : uw10.cell? ⟨d, 3, none⟩ = some (.int .i32 nl) := Base.RowAt.cell (show Base.RowAt uw10 d 44 #[.iface 244 (.pointer (some ⟨kx, 0, none⟩)), .int .i32 tl, .string nm, .int .i32 nl, .int .u8 0, .bool false, .bool false, .bool false] from (HO.out.frame _ _ hxd).2.1) rfl
  have fd4 : uw10.cell? ⟨d, 4, none⟩ = some (.int .u8 0) := Base.RowAt.cell (show Base.RowAt uw10 d 44 #[.iface 244 (.pointer (some ⟨kx, 0, none⟩)), .int .i32 tl, .string nm, .int .i32 nl, .int .u8 0, .bool false, .bool false, .bool false] from (HO.out.frame _ _ hxd).2.1) rfl
  have fd5 : uw10.cell? ⟨d, 5, none⟩ = some (.bool false) := Base.RowAt.cell (show Base.RowAt uw10 d 44 #[.iface 244 (.pointer (some ⟨kx, 0, none⟩)), .int .i32 tl, .string nm, .int .i32 nl, .int .u8 0, .bool false, .bool false, .bool false] from (HO.out.frame _ _ hxd).2.1) rfl
  have fd6 : uw10.cell? ⟨d, 6, none⟩ = some (.bool false) := Base.RowAt.cell (show Base.RowAt uw10 d 44 #[.iface 244 (.pointer (some ⟨kx, 0, none⟩)), .int .i32 tl, .string nm, .int .i32 nl, .int .u8 0, .bool false, .bool false, .bool false] from (HO.out.frame _ _ hxd).2.1) rfl
  have fd7 : uw10.cell? ⟨d, 7, none⟩ = some (.bool false) := Base.RowAt.cell (show Base.RowAt uw10 d 44 #[.iface 244 (.pointer (some ⟨kx, 0, none⟩)), .int .i32 tl, .string nm, .int .i32 nl, .int .u8 0, .bool false, .bool false, .bool false] from (HO.out.frame _ _ hxd).2.1) rfl
  have fdl : d < uw10.heap.size := Base.block_of_cell fd0
  go_wp2_with (first | (with_reducible refine Own.stay (fn := Tryd.f35) ?_) | (first | (go_at_call 34; go_in)))
  try with_reducible refine Own.Stay.mk ?_
  have hO := HO.out
  clear HO hix9 hax9 ix9_0 ix9_1 ix9_2 ix9_3 ix9_4 ix9_5 ix9_6 ix9_7 ix9_8 ix9 fd0 fd1 fd2 fd3 fd4 fd5 fd6 fd7 fdl c9_0_32 c9_0_95 c9_0_96 c9_0_97 c9_0_117 c9_0_338 c9_0_350 lt9_0 y9_0 c9_2_0 c9_2_1 lt9_2 y9_2 c9_3_0 c9_3_1 c9_3_2 c9_3_3 c9_3_4 c9_3_5 c9_3_6 c9_3_7 lt9_3 y9_3 c9_4_0 c9_4_1 lt9_4 y9_4 pl9_4 c9_5_0 c9_5_1 c9_5_2 c9_5_3 c9_5_4 lt9_5 y9_5 c9_6_0 c9_6_1 lt9_6 y9_6 pl9_6 c9_7_0 c9_7_1 lt9_7 y9_7 pl9_7 c9_8_0 c9_8_1 lt9_8 y9_8 pl9_8
  generalize hW : World.setCell _ _ _ = W14
  have hN : Own w0 W14 [row (pb) 206 PC, ((mp, .map #[⟨.string ⟨#[95, 95, 115, 117, 112, 101, 114, 87, 114, 97, 112, 112, 101, 114]⟩, .agg #[.int .i32 0, .int .u32 0, .int .u32 2], 0⟩, ⟨.string ⟨#[95, 95, 115, 117, 112, 101, 114, 71, 101, 116]⟩, .agg #[.int .i32 0, .int .u32 0, .int .u32 3], 1⟩, ⟨.string ⟨#[95, 95, 112, 114, 105, 118, 97, 116, 101, 87, 114, 97, 112, 112, 101, 114]⟩, .agg #[.int .i32 0, .int .u32 0, .int .u32 4], 2⟩] 3) : Rw), row (cr) 68 #[.int .u32 0, .int .u32 1], row (nd12) 44 #[.iface 52 (.pointer (some ⟨nd11, 0, none⟩)), .int .i32 loc, .string ⟨#[95]⟩, .int .i32 loc, .int .u8 0, .bool false, .bool false, .bool false], row (B1_2) 30 #[.iface 244 (.pointer (some ⟨kx, 0, none⟩)), .int .i32 tl], row (nd6) 214 #[.slice (some ⟨nd5, 0, none⟩) (nd8) (nd9), .int .i32 0, .bool false, .bool false, .bool false], row (nd7) 30 #[.iface 50 (.pointer (some ⟨nd6, 0, none⟩)), .int .i32 nl], row (B1_1) 30 #[.iface 40 (.pointer (some ⟨nd12, 0, none⟩)), .int .i32 loc], row (B1) 30 #[.iface 40 (.pointer (some ⟨nd12, 0, none⟩)), .int .i32 loc]] X := by
    rw [← hW]
    exact ((((hO).set 8 rfl 0 _).set 8 rfl 1 _).set 7 rfl 0 _).set 7 rfl 1 _
  clear hW hO
  have hO := hN
  clear hN
  have z9_7_0 : W14.cell? ⟨B1_1, 0, none⟩ = some (.iface 40 (.pointer (some ⟨nd12, 0, none⟩))) := hO.cell 7 rfl 0 rfl
  have z9_7_1 : W14.cell? ⟨B1_1, 1, none⟩ = some (.int .i32 loc) := hO.cell 7 rfl 1 rfl
  refine bodyPost_ret (v := .tuple #[.agg #[.iface 40 (.pointer (some ⟨nd12, 0, none⟩)), .int .i32 loc], .bool true]) ?_ rfl ⟨nd11, nd12, rfl, hO.sub [0, 1, 2, 3] (by decide)⟩
  simp [results, Tryd.results35, go_sem, z9_7_0, z9_7_1]
def rHxa0E (pb : Nat) (PC : Array Value) (mp : Nat) (cr : Nat) (loc : Int) (d : Nat) (ib : Nat) (il : Int) (B1 : Nat) : Nat → Rega.Atoms → Value
  | 0, α => .pointer (some ⟨pb, 0, none⟩)
  | 1, α => .pointer (some ⟨B1, 1, none⟩)
  | 2, α => .agg #[.int .i32 loc]
  | 3, α => .pointer (some ⟨d, 0, none⟩)
  | 4, α => .pointer (some ⟨d, 0, none⟩)
  | 5, α => .pointer (some ⟨d, 2, none⟩)
  | 6, α => .agg #[.iface 220 (.pointer (some ⟨ib, 0, none⟩)), .int .i32 il]
  | 7, α => .agg #[.iface 40 (.pointer (some ⟨α 7, 0, none⟩)), .int .i32 loc]
  | 8, α => undef
  | _, _ => undef
def rHxa0Anc : Nat → List Nat
  | 2 => [1]
  | 4 => [3]
  | 5 => [3, 4]
  | 6 => [3, 4, 5]
  | 7 => [0, 1, 2, 3, 4, 5, 6]
  | 8 => [0, 1, 2, 3, 4, 5, 6, 7]
  | _ => []
def rHxa0Trn : Nat → List Nat
  | 8 => [999]
  | _ => []
def rHxa0Cnt : List (Nat × Nat) := [(7, 1)]
def rHxa0T999 (pb : Nat) (PC : Array Value) (mp : Nat) (cr : Nat) (loc : Int) (d : Nat) (ib : Nat) (il : Int) (B1 : Nat) (L9 : Nat → Bool) (α : Rega.Atoms) : Rw := if L9 8 = true then row (B1) 30 #[.iface 40 (.pointer (some ⟨α 7, 0, none⟩)), .int .i32 loc] else row (B1) 30 #[.iface 209 (.pointer (some ⟨d, 0, none⟩)), .int .i32 loc]
def rHxa0R (pb : Nat) (PC : Array Value) (mp : Nat) (cr : Nat) (loc : Int) (d : Nat) (ib : Nat) (il : Int) (B1 : Nat) (L9 : Nat → Bool) (α : Rega.Atoms) (ix9 : Nat) : Rw := if ix9 = 999 then rHxa0T999 pb PC mp cr loc d ib il B1 L9 α else if ix9 = 1999 then row (pb) 206 PC else if ix9 = 2999 then ((mp, .map #[⟨.string ⟨#[95, 95, 115, 117, 112, 101, 114, 87, 114, 97, 112, 112, 101, 114]⟩, .agg #[.int .i32 0, .int .u32 0, .int .u32 2], 0⟩, ⟨.string ⟨#[95, 95, 115, 117, 112, 101, 114, 71, 101, 116]⟩, .agg #[.int .i32 0, .int .u32 0, .int .u32 3], 1⟩, ⟨.string ⟨#[95, 95, 112, 114, 105, 118, 97, 116, 101, 87, 114, 97, 112, 112, 101, 114]⟩, .agg #[.int .i32 0, .int .u32 0, .int .u32 4], 2⟩] 3) : Rw) else if ix9 = 3999 then row (cr) 68 #[.int .u32 0, .int .u32 1] else if ix9 = 7 then row (α 7) 44 #[.iface 52 (.pointer (some ⟨α 1007, 0, none⟩)), .int .i32 loc, .string ⟨#[95]⟩, .int .i32 loc, .int .u8 0, .bool false, .bool false, .bool false] else (0, .map #[] 0)
theorem rHxa0_he (pb : Nat) (PC : Array Value) (mp : Nat) (cr : Nat) (loc : Int) (d : Nat) (ib : Nat) (il : Int) (B1 : Nat) : ∀ kk α α', (∀ j, (j % 1000 = kk ∨ j % 1000 ∈ rHxa0Anc kk) → α j = α' j) → rHxa0E pb PC mp cr loc d ib il B1 kk α = rHxa0E pb PC mp cr loc d ib il B1 kk α' := by
  intro kk α α' h
  match kk with
  | 0 => rfl
  | 1 => rfl
  | 2 => rfl
  | 3 => rfl
  | 4 => rfl
  | 5 => rfl
  | 6 => rfl
  | 7 => simp only [rHxa0E, h 7 (Or.inl rfl)]
  | 8 => rfl
  | n + 9 => rfl
theorem rHxa0_st (pb : Nat) (PC : Array Value) (mp : Nat) (cr : Nat) (loc : Int) (d : Nat) (ib : Nat) (il : Int) (B1 : Nat) : Stable rHxa0Cnt 4 rHxa0Anc rHxa0Trn (rHxa0R pb PC mp cr loc d ib il B1) := by
  intro k9 L9 α α' ix9 hk hcl hα hact ht
  have hp := act_places hact
  replace hp : ix9 ∈ [999, 1999, 2999, 3999, 7] := hp
  simp only [List.mem_cons, List.not_mem_nil, or_false] at hp
  rcases hp with rfl | rfl | rfl | rfl | rfl
  · show rHxa0T999 pb PC mp cr loc d ib il B1 (Rega.ran L9 k9) α' = rHxa0T999 pb PC mp cr loc d ib il B1 L9 α
    unfold rHxa0T999
    have n8 : 8 ≠ k9 := fun e => ht (by rw [← e]; decide)
    rw [ran_ne n8]
    by_cases e8 : L9 8 = true
    · first | rw [if_pos e8, if_pos e8] | rw [if_pos e8]
      try simp only [hα 7 (ne_ran hk (hcl 8 e8 7 (by decide)))]
    first | rw [if_neg e8, if_neg e8] | rw [if_neg e8]
  · rfl
  · rfl
  · rfl
  · have e0 : L9 7 = true := act_lt hact (by decide)
    show row (α' 7) 44 #[.iface 52 (.pointer (some ⟨α' 1007, 0, none⟩)), .int .i32 loc, .string ⟨#[95]⟩, .int .i32 loc, .int .u8 0, .bool false, .bool false, .bool false] = row (α 7) 44 #[.iface 52 (.pointer (some ⟨α 1007, 0, none⟩)), .int .i32 loc, .string ⟨#[95]⟩, .int .i32 loc, .int .u8 0, .bool false, .bool false, .bool false]
    simp only [hα 7 (ne_ran hk e0), hα 1007 (ne_ran hk e0)]
def hotxPost (pb : Nat) (PC : Array Value) (mp cr : Nat) (r s : Bool) (loc : Int) (d kx : Nat) (tl : Int) (ib : Nat) (il : Int) (w0 : World) (X : Nat → Obj → Prop) (e : Ending) (w' : World) : Prop :=
  ∃ ca : Nat, ∃ dd : Nat, e = .returned (.tuple #[.agg #[.iface 40 (.pointer (some ⟨dd, 0, none⟩)), .int .i32 loc], .bool true]) ∧ Own w0 w' [row (pb) 206 PC, ((mp, .map #[⟨.string ⟨#[95, 95, 115, 117, 112, 101, 114, 87, 114, 97, 112, 112, 101, 114]⟩, .agg #[.int .i32 0, .int .u32 0, .int .u32 2], 0⟩, ⟨.string ⟨#[95, 95, 115, 117, 112, 101, 114, 71, 101, 116]⟩, .agg #[.int .i32 0, .int .u32 0, .int .u32 3], 1⟩, ⟨.string ⟨#[95, 95, 112, 114, 105, 118, 97, 116, 101, 87, 114, 97, 112, 112, 101, 114]⟩, .agg #[.int .i32 0, .int .u32 0, .int .u32 4], 2⟩] 3) : Rw), row (cr) 68 #[.int .u32 0, .int .u32 1], row (dd) 44 #[.iface 52 (.pointer (some ⟨ca, 0, none⟩)), .int .i32 loc, .string ⟨#[95]⟩, .int .i32 loc, .int .u8 0, .bool false, .bool false, .bool false]] X
set_option maxRecDepth 100000 in
set_option maxHeartbeats 2000000 in
theorem hotx (pb : Nat) (PC : Array Value) (mp cr : Nat) (r s : Bool) (loc : Int) (d kx : Nat) (tl : Int) (ib : Nat) (il : Int) (w0 w : World) (X : Nat → Obj → Prop) (hO : Own w0 w [row (pb) 206 PC, ((mp, .map #[⟨.string ⟨#[95, 95, 115, 117, 112, 101, 114, 87, 114, 97, 112, 112, 101, 114]⟩, .agg #[.int .i32 0, .int .u32 0, .int .u32 2], 0⟩, ⟨.string ⟨#[95, 95, 115, 117, 112, 101, 114, 71, 101, 116]⟩, .agg #[.int .i32 0, .int .u32 0, .int .u32 3], 1⟩, ⟨.string ⟨#[95, 95, 112, 114, 105, 118, 97, 116, 101, 87, 114, 97, 112, 112, 101, 114]⟩, .agg #[.int .i32 0, .int .u32 0, .int .u32 4], 2⟩] 3) : Rw), row (cr) 68 #[.int .u32 0, .int .u32 1]] X) (hD : Dead PC mp cr r s) (hl : PC[338]? = some (.bool true)) (hxi : X d (.cells #[.iface 244 (.pointer (some ⟨kx, 0, none⟩)), .int .i32 tl, .iface 220 (.pointer (some ⟨ib, 0, none⟩)), .int .i32 il, .int .i32 0, .int .u8 0, .bool false, .bool false, .bool false] 211 (0, 0))) :
    Calls Tryd.prog 35 #[.pointer (some ⟨pb, 0, none⟩), .agg #[.iface 209 (.pointer (some ⟨d, 0, none⟩)), .int .i32 loc]] w (hotxPost pb PC mp cr r s loc d kx tl ib il w0 X) := by
  go_enter Tryd.func35, Tryd.ntmps35
  obtain ⟨ix9, hix9, hax9, hjx9⟩ := hO.ix
  have ix9_0 : ix9 pb = 0 := hjx9 0 _ _ rfl
  have ix9_1 : ix9 mp = 1 := hjx9 1 _ _ rfl
  have ix9_2 : ix9 cr = 2 := hjx9 2 _ _ rfl
  clear hjx9
  have c9_0_32 : w.cell? ⟨pb, 32, none⟩ = some (.bool false) := hO.cell 0 rfl (32) (hD.ts)
  have c9_0_95 : w.cell? ⟨pb, 95, none⟩ = some (.bool r) := hO.cell 0 rfl (95) (hD.rep)
  have c9_0_96 : w.cell? ⟨pb, 96, none⟩ = some (.bool s) := hO.cell 0 rfl (96) (hD.stat)
  have c9_0_97 : w.cell? ⟨pb, 97, none⟩ = some (.pointer (some ⟨cr, 0, none⟩)) := hO.cell 0 rfl (97) (hD.cls)
  have c9_0_117 : w.cell? ⟨pb, 117, none⟩ = some (.map (some mp)) := hO.cell 0 rfl (117) (hD.imp)
  have c9_0_338 : w.cell? ⟨pb, 338, none⟩ = some (.bool true) := hO.cell 0 rfl (338) (hl)
  have c9_0_350 : w.cell? ⟨pb, 350, none⟩ = some (.bool true) := hO.cell 0 rfl (350) (hD.dead)
  have lt9_0 : pb < w.heap.size := hO.lt 0 rfl
  have y9_0 : ∀ o, w.frozen? ⟨pb, o, none⟩ = false := hO.free 0 rfl
  obtain ⟨c9_2_0, c9_2_1, lt9_2, y9_2, -⟩ := hO.k2 2 rfl
  have HO := Lib.hid hO
  clear hO
  have fi0 : w.cell? ⟨d, 0, none⟩ = some (.iface 244 (.pointer (some ⟨kx, 0, none⟩))) := Base.RowAt.cell (show Base.RowAt w d 211 #[.iface 244 (.pointer (some ⟨kx, 0, none⟩)), .int .i32 tl, .iface 220 (.pointer (some ⟨ib, 0, none⟩)), .int .i32 il, .int .i32 0, .int .u8 0, .bool false, .bool false, .bool false] from (HO.out.frame _ _ hxi).2.1) rfl
  have fi1 : w.cell? ⟨d, 1, none⟩ = some (.int .i32 tl) := Base.RowAt.cell (show Base.RowAt w d 211 #[.iface 244 (.pointer (some ⟨kx, 0, none⟩)), .int .i32 tl, .iface 220 (.pointer (some ⟨ib, 0, none⟩)), .int .i32 il, .int .i32 0, .int .u8 0, .bool false, .bool false, .bool false] from (HO.out.frame _ _ hxi).2.1) rfl
  have fi2 : w.cell? ⟨d, 2, none⟩ = some (.iface 220 (.pointer (some ⟨ib, 0, none⟩))) := Base.RowAt.cell (show Base.RowAt w d 211 #[.iface 244 (.pointer (some ⟨kx, 0, none⟩)), .int .i32 tl, .iface 220 (.pointer (some ⟨ib, 0, none⟩)), .int .i32 il, .int .i32 0, .int .u8 0, .bool false, .bool false, .bool false] from (HO.out.frame _ _ hxi).2.1) rfl
  have fi3 : w.cell? ⟨d, 3, none⟩ = some (.int .i32 il) := Base.RowAt.cell (show Base.RowAt w d 211 #[.iface 244 (.pointer (some ⟨kx, 0, none⟩)), .int .i32 tl, .iface 220 (.pointer (some ⟨ib, 0, none⟩)), .int .i32 il, .int .i32 0, .int .u8 0, .bool false, .bool false, .bool false] from (HO.out.frame _ _ hxi).2.1) rfl
  have fi4 : w.cell? ⟨d, 4, none⟩ = some (.int .i32 0) := Base.RowAt.cell (show Base.RowAt w d 211 #[.iface 244 (.pointer (some ⟨kx, 0, none⟩)), .int .i32 tl, .iface 220 (.pointer (some ⟨ib, 0, none⟩)), .int .i32 il, .int .i32 0, .int .u8 0, .bool false, .bool false, .bool false] from (HO.out.frame _ _ hxi).2.1) rfl
  have fi5 : w.cell? ⟨d, 5, none⟩ = some (.int .u8 0) := Base.RowAt.cell (show Base.RowAt w d 211 #[.iface 244 (.pointer (some ⟨kx, 0, none⟩)), .int .i32 tl, .iface 220 (.pointer (some ⟨ib, 0, none⟩)), .int .i32 il, .int .i32 0, .int .u8 0, .bool false, .bool false, .bool false] from (HO.out.frame _ _ hxi).2.1) rfl
  have fi6 : w.cell? ⟨d, 6, none⟩ = some (.bool false) := Base.RowAt.cell (show Base.RowAt w d 211 #[.iface 244 (.pointer (some ⟨kx, 0, none⟩)), .int .i32 tl, .iface 220 (.pointer (some ⟨ib, 0, none⟩)), .int .i32 il, .int .i32 0, .int .u8 0, .bool false, .bool false, .bool false] from (HO.out.frame _ _ hxi).2.1) rfl
  have fi7 : w.cell? ⟨d, 7, none⟩ = some (.bool false) := Base.RowAt.cell (show Base.RowAt w d 211 #[.iface 244 (.pointer (some ⟨kx, 0, none⟩)), .int .i32 tl, .iface 220 (.pointer (some ⟨ib, 0, none⟩)), .int .i32 il, .int .i32 0, .int .u8 0, .bool false, .bool false, .bool false] from (HO.out.frame _ _ hxi).2.1) rfl
  have fi8 : w.cell? ⟨d, 8, none⟩ = some (.bool false) := Base.RowAt.cell (show Base.RowAt w d 211 #[.iface 244 (.pointer (some ⟨kx, 0, none⟩)), .int .i32 tl, .iface 220 (.pointer (some ⟨ib, 0, none⟩)), .int .i32 il, .int .i32 0, .int .u8 0, .bool false, .bool false, .bool false] from (HO.out.frame _ _ hxi).2.1) rfl
  have fil : d < w.heap.size := Base.block_of_cell fi0
  go_wp2_with (first | (with_reducible refine Own.stay (fn := Tryd.f35) ?_) | (first | (go_at_call 34; go_in)))
  try with_reducible refine Own.Stay.mk ?_
  have hO := HO.out
  clear HO hix9 hax9 ix9_0 ix9_1 ix9_2 ix9 fi0 fi1 fi2 fi3 fi4 fi5 fi6 fi7 fi8 fil c9_0_32 c9_0_95 c9_0_96 c9_0_97 c9_0_117 c9_0_338 c9_0_350 lt9_0 y9_0 c9_2_0 c9_2_1 lt9_2 y9_2
  generalize hW : World.alloc _ _ = W2
  have hN : Own w0 W2 [row (w.heap.size + 1 + 1) 30 #[.iface 244 (.pointer (some ⟨kx, 0, none⟩)), .int .i32 tl], row (w.heap.size + 1) 30 #[.nilIface, .int .i32 0], row (w.heap.size) 30 #[.iface 209 (.pointer (some ⟨d, 0, none⟩)), .int .i32 loc], row (pb) 206 PC, ((mp, .map #[⟨.string ⟨#[95, 95, 115, 117, 112, 101, 114, 87, 114, 97, 112, 112, 101, 114]⟩, .agg #[.int .i32 0, .int .u32 0, .int .u32 2], 0⟩, ⟨.string ⟨#[95, 95, 115, 117, 112, 101, 114, 71, 101, 116]⟩, .agg #[.int .i32 0, .int .u32 0, .int .u32 3], 1⟩, ⟨.string ⟨#[95, 95, 112, 114, 105, 118, 97, 116, 101, 87, 114, 97, 112, 112, 101, 114]⟩, .agg #[.int .i32 0, .int .u32 0, .int .u32 4], 2⟩] 3) : Rw), row (cr) 68 #[.int .u32 0, .int .u32 1]] X := by
    rw [← hW]
    exact (((hO).alloc' _ (w.heap.size) (by simp)).alloc' _ (w.heap.size + 1) (by simp)).alloc' _ (w.heap.size + 1 + 1) (by simp)
  clear hW hO
  generalize w.heap.size + 1 + 1 = B1_2 at hN ⊢
  generalize w.heap.size + 1 = B1_1 at hN ⊢
  generalize w.heap.size = B1 at hN ⊢
  have hO := hN
  clear hN
  have hL := hO.apart
  have hX := hO.apartX
  have HL := Lib.hid hL
  have HX := Lib.hid hX
  clear hL hX
  have hP9 := hO.pick [2, 3, 4, 5] (by decide)
  generalize hX9_3 : Own.Rest _ _ X = X9_3 at hP9
  replace hP9 : Own w0 W2 [row (B1) 30 #[.iface 209 (.pointer (some ⟨d, 0, none⟩)), .int .i32 loc], row (pb) 206 PC, ((mp, .map #[⟨.string ⟨#[95, 95, 115, 117, 112, 101, 114, 87, 114, 97, 112, 112, 101, 114]⟩, .agg #[.int .i32 0, .int .u32 0, .int .u32 2], 0⟩, ⟨.string ⟨#[95, 95, 115, 117, 112, 101, 114, 71, 101, 116]⟩, .agg #[.int .i32 0, .int .u32 0, .int .u32 3], 1⟩, ⟨.string ⟨#[95, 95, 112, 114, 105, 118, 97, 116, 101, 87, 114, 97, 112, 112, 101, 114]⟩, .agg #[.int .i32 0, .int .u32 0, .int .u32 4], 2⟩] 3) : Rw), row (cr) 68 #[.int .u32 0, .int .u32 1]] X9_3 := hP9
  clear hO
  have hO := hP9
  clear hP9
  have hxr4 : X9_3 d (.cells #[.iface 244 (.pointer (some ⟨kx, 0, none⟩)), .int .i32 tl, .iface 220 (.pointer (some ⟨ib, 0, none⟩)), .int .i32 il, .int .i32 0, .int .u8 0, .bool false, .bool false, .bool false] 211 (0, 0)) := by rw [← hX9_3]; exact Or.inl hxi
  have st9 := rHxa0_st pb PC mp cr loc d ib il B1
  let R9 := rHxa0R pb PC mp cr loc d ib il B1
  refine wp_region_own (e := rHxa0E pb PC mp cr loc d ib il B1) (anc := rHxa0Anc) (G := (fun L9 α u9 => OwnF w0 u9 (act rHxa0Cnt 4 L9) (rHxa0R pb PC mp cr loc d ib il B1 L9 α) X9_3)) (by kernel_rfl) (by kernel_rfl) (by kernel_rfl) (by kernel_rfl) (rHxa0_he pb PC mp cr loc d ib il B1) ?_ (RunsAll.all ?_) ?_
  · have hp : ∀ i, act rHxa0Cnt 4 (fun _ => false) i → i ∈ [999, 1999, 2999, 3999] := by
      intro i hi
      have h9 : i % 1000 = 999 := by
        by_cases h : i % 1000 = 999
        · exact h
        · exact absurd (act_lt hi h) (by simp)
      unfold act at hi
      rw [if_pos h9] at hi
      simp only [List.mem_cons, List.not_mem_nil, or_false]
      omega
    refine hO.drew.family (fun i hi => ?_) (fun i j hi hj hij => ?_)
    · have := hp i hi
      simp only [List.mem_cons, List.not_mem_nil, or_false] at this
      rcases this with rfl | rfl | rfl | rfl <;> rfl
    · have h1 := hp i hi
      have h2 := hp j hj
      simp only [List.mem_cons, List.not_mem_nil, or_false] at h1 h2
      omega
  · refine ⟨?_, ?_, ?_, ?_, ?_, ?_, ?_, ?_, ?_, trivial⟩
    · intro L9 α a9 u9 K9 hL hcl hA hG hS h0 h1 hK
      replace hL : L9 0 = false := hL
      have q0 : a9.tmps[0]? = some (.pointer (some ⟨pb, 0, none⟩)) := (h0 0 (by kernel_rfl)).trans rfl
      have s0 := Rega.eval_of q0
      go_simp
      exact hK _ α _ (fun _ _ => rfl) rfl (step_same (st9) hL hcl rfl rfl hG)
    · intro L9 α a9 u9 K9 hL hcl hA hG hS h0 h1 hK
      replace hL : L9 1 = false := hL
      have q3 : a9.tmps[3]? = some (.pointer (some ⟨B1, 0, none⟩)) := (h0 3 (by kernel_rfl)).trans rfl
      have s3 := Rega.eval_of q3
      go_simp
      exact hK _ α _ (fun _ _ => rfl) rfl (step_same (st9) hL hcl rfl rfl hG)
    · intro L9 α a9 u9 K9 hL hcl hA hG hS h0 h1 hK
      replace hL : L9 2 = false := hL
      have q83 : a9.tmps[83]? = some (.pointer (some ⟨B1, 1, none⟩)) := hS 1 83 (by decide) rfl (by show 83 < 250; decide)
      have s83 := Rega.eval_of q83
      have e0 : R9 L9 α 999 = row (B1) 30 #[.iface 209 (.pointer (some ⟨d, 0, none⟩)), .int .i32 loc] := by
        show rHxa0T999 pb PC mp cr loc d ib il B1 L9 α = _
        unfold rHxa0T999
        rw [if_neg (fun e => by have := hcl 8 e 2 (by decide); rw [hL] at this; cases this)]
      have hr := hG.rowAt 999 (act_base 999 rfl) e0
      have c0 : u9.cell? ⟨B1, 1, none⟩ = some (.int .i32 loc) := hr.cell rfl
      clear hr e0
      go_simp
      exact hK _ α _ (fun _ _ => rfl) rfl (step_same (st9) hL hcl rfl rfl hG)
    · intro L9 α a9 u9 K9 hL hcl hA hG hS h0 h1 hK
      replace hL : L9 3 = false := hL
      have q12 : a9.tmps[12]? = some (.pointer (some ⟨d, 0, none⟩)) := (h0 12 (by kernel_rfl)).trans rfl
      have s12 := Rega.eval_of q12
      go_simp
      exact hK _ α _ (fun _ _ => rfl) rfl (step_same (st9) hL hcl rfl rfl hG)
    · intro L9 α a9 u9 K9 hL hcl hA hG hS h0 h1 hK
      replace hL : L9 4 = false := hL
      have q85 : a9.tmps[85]? = some (.pointer (some ⟨d, 0, none⟩)) := hS 3 85 (by decide) rfl (by show 85 < 250; decide)
      have s85 := Rega.eval_of q85
      go_simp
      exact hK _ α _ (fun _ _ => rfl) rfl (step_same (st9) hL hcl rfl rfl hG)
    · intro L9 α a9 u9 K9 hL hcl hA hG hS h0 h1 hK
      replace hL : L9 5 = false := hL
      have q86 : a9.tmps[86]? = some (.pointer (some ⟨d, 0, none⟩)) := hS 4 86 (by decide) rfl (by show 86 < 250; decide)
      have s86 := Rega.eval_of q86
      go_simp
      exact hK _ α _ (fun _ _ => rfl) rfl (step_same (st9) hL hcl rfl rfl hG)
    · intro L9 α a9 u9 K9 hL hcl hA hG hS h0 h1 hK
      replace hL : L9 6 = false := hL
      have q87 : a9.tmps[87]? = some (.pointer (some ⟨d, 2, none⟩)) := hS 5 87 (by decide) rfl (by show 87 < 250; decide)
      have s87 := Rega.eval_of q87
      have c0 : u9.cell? ⟨d, 2, none⟩ = some (.iface 220 (.pointer (some ⟨ib, 0, none⟩))) := Base.RowAt.cell (show Base.RowAt u9 d 211 #[.iface 244 (.pointer (some ⟨kx, 0, none⟩)), .int .i32 tl, .iface 220 (.pointer (some ⟨ib, 0, none⟩)), .int .i32 il, .int .i32 0, .int .u8 0, .bool false, .bool false, .bool false] from (hG.frame _ _ hxr4).2.1) rfl
      have c1 : u9.cell? ⟨d, 3, none⟩ = some (.int .i32 il) := Base.RowAt.cell (show Base.RowAt u9 d 211 #[.iface 244 (.pointer (some ⟨kx, 0, none⟩)), .int .i32 tl, .iface 220 (.pointer (some ⟨ib, 0, none⟩)), .int .i32 il, .int .i32 0, .int .u8 0, .bool false, .bool false, .bool false] from (hG.frame _ _ hxr4).2.1) rfl
      go_simp
      exact hK _ α _ (fun _ _ => rfl) rfl (step_same (st9) hL hcl rfl rfl hG)
    · intro L9 α a9 u9 K9 hL hcl hA hG hS h0 h1 hK
      replace hL : L9 7 = false := hL
      have q82 : a9.tmps[82]? = some (.pointer (some ⟨pb, 0, none⟩)) := hS 0 82 (by decide) rfl (by show 82 < 250; decide)
      have s82 := Rega.eval_of q82
      have q84 : a9.tmps[84]? = some (.agg #[.int .i32 loc]) := hS 2 84 (by decide) rfl (by show 84 < 250; decide)
      have s84 := Rega.eval_of q84
      have q88 : a9.tmps[88]? = some (.agg #[.iface 220 (.pointer (some ⟨ib, 0, none⟩)), .int .i32 il]) := hS 6 88 (by decide) rfl (by show 88 < 250; decide)
      have s88 := Rega.eval_of q88
      go_simp
      have e0 : R9 L9 α 1999 = row (pb) 206 PC := rfl
      have e1 : R9 L9 α 2999 = ((mp, .map #[⟨.string ⟨#[95, 95, 115, 117, 112, 101, 114, 87, 114, 97, 112, 112, 101, 114]⟩, .agg #[.int .i32 0, .int .u32 0, .int .u32 2], 0⟩, ⟨.string ⟨#[95, 95, 115, 117, 112, 101, 114, 71, 101, 116]⟩, .agg #[.int .i32 0, .int .u32 0, .int .u32 3], 1⟩, ⟨.string ⟨#[95, 95, 112, 114, 105, 118, 97, 116, 101, 87, 114, 97, 112, 112, 101, 114]⟩, .agg #[.int .i32 0, .int .u32 0, .int .u32 4], 2⟩] 3) : Rw) := rfl
      have e2 : R9 L9 α 3999 = row (cr) 68 #[.int .u32 0, .int .u32 1] := rfl
      have hM : ∀ i, i ∈ [1999, 2999, 3999] → act rHxa0Cnt 4 L9 i := by
        intro i hi
        simp only [List.mem_cons, List.not_mem_nil, or_false] at hi
        rcases hi with rfl | rfl | rfl
        · exact act_base 1999 rfl
        · exact act_base 2999 rfl
        · exact act_base 3999 rfl
      have hP : Own w0 u9 [row (pb) 206 PC, ((mp, .map #[⟨.string ⟨#[95, 95, 115, 117, 112, 101, 114, 87, 114, 97, 112, 112, 101, 114]⟩, .agg #[.int .i32 0, .int .u32 0, .int .u32 2], 0⟩, ⟨.string ⟨#[95, 95, 115, 117, 112, 101, 114, 71, 101, 116]⟩, .agg #[.int .i32 0, .int .u32 0, .int .u32 3], 1⟩, ⟨.string ⟨#[95, 95, 112, 114, 105, 118, 97, 116, 101, 87, 114, 97, 112, 112, 101, 114]⟩, .agg #[.int .i32 0, .int .u32 0, .int .u32 4], 2⟩] 3) : Rw), row (cr) 68 #[.int .u32 0, .int .u32 1]] _ := (hG.pick [1999, 2999, 3999] (by decide) hM).conv (by
        show [R9 L9 α 1999, R9 L9 α 2999, R9 L9 α 3999] = _
        rw [e0, e1, e2])
      clear e0 e1 e2 hM
      refine Calls.mono (supWrap pb PC mp cr r s loc 220 ib il _ _ _ hP hD) ?_
      rintro e9 u1 ⟨b1, b0, rfl, hQ⟩
      obtain ⟨α', hα'⟩ : ∃ α' : Rega.Atoms, α' = (fun j => if j = 7 then b0 else if j = 1007 then b1 else α j) := ⟨_, rfl⟩
      have f0 : R9 (Rega.ran L9 7) α' 1999 = row (pb) 206 PC := rfl
      have f1 : R9 (Rega.ran L9 7) α' 2999 = ((mp, .map #[⟨.string ⟨#[95, 95, 115, 117, 112, 101, 114, 87, 114, 97, 112, 112, 101, 114]⟩, .agg #[.int .i32 0, .int .u32 0, .int .u32 2], 0⟩, ⟨.string ⟨#[95, 95, 115, 117, 112, 101, 114, 71, 101, 116]⟩, .agg #[.int .i32 0, .int .u32 0, .int .u32 3], 1⟩, ⟨.string ⟨#[95, 95, 112, 114, 105, 118, 97, 116, 101, 87, 114, 97, 112, 112, 101, 114]⟩, .agg #[.int .i32 0, .int .u32 0, .int .u32 4], 2⟩] 3) : Rw) := rfl
      have f2 : R9 (Rega.ran L9 7) α' 3999 = row (cr) 68 #[.int .u32 0, .int .u32 1] := rfl
      have f3 : R9 (Rega.ran L9 7) α' 7 = row (α' 7) 44 #[.iface 52 (.pointer (some ⟨α' 1007, 0, none⟩)), .int .i32 loc, .string ⟨#[95]⟩, .int .i32 loc, .int .u8 0, .bool false, .bool false, .bool false] := rfl
      have hα : ∀ j, j % 1000 ≠ 7 → α' j = α j := fun j hj => by rw [hα']; simp only []; rw [if_neg (by omega), if_neg (by omega)]
      have hb0 : α' 7 = b0 := by rw [hα']; rfl
      have hb1 : α' 1007 = b1 := by rw [hα']; rfl
      skip
      refine hK _ α' _ hα ?_ (step_call (st9) hL hcl hα [1999, 2999, 3999] [1999, 2999, 3999, 7] (by decide) (by decide) (by decide) (M := _) ?_ hG hQ)
      · show _ = (.agg #[.iface 40 (.pointer (some ⟨α' 7, 0, none⟩)), .int .i32 loc] : Value)
        simp only [hb0]
      · show [R9 (Rega.ran L9 7) α' 1999, R9 (Rega.ran L9 7) α' 2999, R9 (Rega.ran L9 7) α' 3999, R9 (Rega.ran L9 7) α' 7] = _
        rw [f0, f1, f2, f3]
        simp only [hb0, hb1]
        try rfl
    · intro L9 α a9 u9 K9 hL hcl hA hG hS h0 h1 hK
      replace hL : L9 8 = false := hL
      have q3 : a9.tmps[3]? = some (.pointer (some ⟨B1, 0, none⟩)) := (h0 3 (by kernel_rfl)).trans rfl
      have s3 := Rega.eval_of q3
      have q89 : a9.tmps[89]? = some (.agg #[.iface 40 (.pointer (some ⟨α 7, 0, none⟩)), .int .i32 loc]) := hS 7 89 (by decide) rfl (by show 89 < 250; decide)
      have s89 := Rega.eval_of q89
      have e0 : R9 L9 α 999 = row (B1) 30 #[.iface 209 (.pointer (some ⟨d, 0, none⟩)), .int .i32 loc] := by
        show rHxa0T999 pb PC mp cr loc d ib il B1 L9 α = _
        unfold rHxa0T999
        rw [if_neg (by rw [hL]; decide)]
      have hr := hG.rowAt 999 (act_base 999 rfl) e0
      have c0 : u9.cell? ⟨B1, 0, none⟩ = some (.iface 209 (.pointer (some ⟨d, 0, none⟩))) := hr.cell rfl
      have y0 : u9.frozen? ⟨B1, 0, none⟩ = false := hr.free (0)
      have c1 : u9.cell? ⟨B1, 1, none⟩ = some (.int .i32 loc) := hr.cell rfl
      have y1 : u9.frozen? ⟨B1, 1, none⟩ = false := hr.free (1)
      clear hr
      have E0 := Lib.hid e0
      clear e0
      go_simp
      have e1 : R9 (Rega.ran L9 8) α 999 = row (B1) 30 #[.iface 40 (.pointer (some ⟨α 7, 0, none⟩)), .int .i32 loc] := by
        show rHxa0T999 pb PC mp cr loc d ib il B1 (Rega.ran L9 8) α = _
        unfold rHxa0T999
        rw [if_pos (show Rega.ran L9 8 8 = true from rfl)]
      exact hK _ α _ (fun _ _ => rfl) rfl (step_sets (st9) hL hcl rfl 999 rfl (act_base 999 rfl) E0.out (0) [.iface 40 (.pointer (some ⟨α 7, 0, none⟩)), .int .i32 loc] (e1.trans rfl) hG)
  clear st9
  intro α u hG
  have e0 : R9 (fun k => decide (k < 9)) α 999 = row (B1) 30 #[.iface 40 (.pointer (some ⟨α 7, 0, none⟩)), .int .i32 loc] := by
    show rHxa0T999 pb PC mp cr loc d ib il B1 (fun k => decide (k < 9)) α = _
    unfold rHxa0T999
    rw [if_pos (by decide)]
  have e1 : R9 (fun k => decide (k < 9)) α 1999 = row (pb) 206 PC := rfl
  have e2 : R9 (fun k => decide (k < 9)) α 2999 = ((mp, .map #[⟨.string ⟨#[95, 95, 115, 117, 112, 101, 114, 87, 114, 97, 112, 112, 101, 114]⟩, .agg #[.int .i32 0, .int .u32 0, .int .u32 2], 0⟩, ⟨.string ⟨#[95, 95, 115, 117, 112, 101, 114, 71, 101, 116]⟩, .agg #[.int .i32 0, .int .u32 0, .int .u32 3], 1⟩, ⟨.string ⟨#[95, 95, 112, 114, 105, 118, 97, 116, 101, 87, 114, 97, 112, 112, 101, 114]⟩, .agg #[.int .i32 0, .int .u32 0, .int .u32 4], 2⟩] 3) : Rw) := rfl
  have e3 : R9 (fun k => decide (k < 9)) α 3999 = row (cr) 68 #[.int .u32 0, .int .u32 1] := rfl
  have e4 : R9 (fun k => decide (k < 9)) α 7 = row (α 7) 44 #[.iface 52 (.pointer (some ⟨α 1007, 0, none⟩)), .int .i32 loc, .string ⟨#[95]⟩, .int .i32 loc, .int .u8 0, .bool false, .bool false, .bool false] := rfl
  have hO : Own w0 u [row (B1) 30 #[.iface 40 (.pointer (some ⟨α 7, 0, none⟩)), .int .i32 loc], row (pb) 206 PC, ((mp, .map #[⟨.string ⟨#[95, 95, 115, 117, 112, 101, 114, 87, 114, 97, 112, 112, 101, 114]⟩, .agg #[.int .i32 0, .int .u32 0, .int .u32 2], 0⟩, ⟨.string ⟨#[95, 95, 115, 117, 112, 101, 114, 71, 101, 116]⟩, .agg #[.int .i32 0, .int .u32 0, .int .u32 3], 1⟩, ⟨.string ⟨#[95, 95, 112, 114, 105, 118, 97, 116, 101, 87, 114, 97, 112, 112, 101, 114]⟩, .agg #[.int .i32 0, .int .u32 0, .int .u32 4], 2⟩] 3) : Rw), row (cr) 68 #[.int .u32 0, .int .u32 1], row (α 7) 44 #[.iface 52 (.pointer (some ⟨α 1007, 0, none⟩)), .int .i32 loc, .string ⟨#[95]⟩, .int .i32 loc, .int .u8 0, .bool false, .bool false, .bool false]] X9_3 := (hG.list [999, 1999, 2999, 3999, 7] (by decide) (act_all (by decide))).conv (by
    show [R9 (fun k => decide (k < 9)) α 999, R9 (fun k => decide (k < 9)) α 1999, R9 (fun k => decide (k < 9)) α 2999, R9 (fun k => decide (k < 9)) α 3999, R9 (fun k => decide (k < 9)) α 7] = _
    rw [e0, e1, e2, e3, e4])
  clear hG e0 e1 e2 e3 e4 R9
  generalize hfr : Rega.frameAt _ _ _ _ _ = fr
  have hdf : fr = ⟨#[.pointer (some ⟨pb, 0, none⟩), .agg #[.iface 209 (.pointer (some ⟨d, 0, none⟩)), .int .i32 loc], undef, .pointer (some ⟨B1, 0, none⟩), .pointer (some ⟨B1_1, 0, none⟩), .bool false, .bool false, undef, undef, undef, undef, undef, .pointer (some ⟨d, 0, none⟩), undef, undef, undef, undef, undef, undef, undef, undef, undef, undef, undef, undef, undef, undef, .pointer (some ⟨B1, 0, none⟩), .iface 209 (.pointer (some ⟨d, 0, none⟩)), .tuple #[.pointer none, .bool false], .bool false, .pointer none, undef, undef, undef, undef, undef, undef, undef, undef, undef, undef, undef, undef, undef, undef, .tuple #[.pointer none, .bool false], .bool false, .pointer none, undef, undef, undef, undef, undef, undef, undef, undef, undef, undef, undef, undef, undef, undef, undef, undef, undef, undef, undef, undef, undef, undef, undef, undef, .tuple #[.pointer (some ⟨d, 0, none⟩), .bool true], .bool true, .pointer (some ⟨d, 0, none⟩), .pointer (some ⟨pb, 0, none⟩), .pointer (some ⟨d, 0, none⟩), .pointer (some ⟨d, 0, none⟩), .pointer (some ⟨d, 0, none⟩), .agg #[.iface 244 (.pointer (some ⟨kx, 0, none⟩)), .int .i32 tl], .bool true, .pointer (some ⟨pb, 0, none⟩), .pointer (some ⟨B1, 1, none⟩), .agg #[.int .i32 loc], .pointer (some ⟨d, 0, none⟩), .pointer (some ⟨d, 0, none⟩), .pointer (some ⟨d, 2, none⟩), .agg #[.iface 220 (.pointer (some ⟨ib, 0, none⟩)), .int .i32 il], .agg #[.iface 40 (.pointer (some ⟨α 7, 0, none⟩)), .int .i32 loc], undef, undef, undef, undef, undef, undef, undef, undef, undef, undef, undef, undef, undef, undef, undef, undef, undef, undef, undef, undef, undef, undef, undef, undef, undef, undef, undef, undef, undef, undef, undef, undef, undef, undef, undef, undef, undef, undef, undef, undef, undef, undef, undef, undef, undef, undef, undef, undef, undef, undef, undef, undef, undef, undef, undef, undef, undef, undef, undef, undef, undef, undef, undef, undef, undef, undef, undef, undef, undef, undef, undef, undef, undef, undef, undef, undef, undef, undef, undef, undef, undef, undef, undef, undef, undef, undef, undef, undef, undef, undef, undef, undef, undef, undef, undef, undef, undef, undef, undef, undef, undef, undef, undef, undef, undef, undef, undef, undef, undef, undef, undef, undef, undef, undef, undef, undef, undef, undef, undef, undef, undef, undef, undef, undef, undef, undef, undef, undef, undef, undef, undef, undef, undef, undef, undef, undef, undef, undef, undef, undef, undef, undef, undef, undef, undef, undef, undef, undef, undef, undef, undef, undef, undef, undef, undef, undef, undef, undef, undef, undef], []⟩ := by rw [← hfr]; kernel_rfl
  clear hfr
  subst hdf
  generalize α 7 = nd5 at hO ⊢
  generalize α 1007 = nd6 at hO ⊢
  clear α
  clear hxr4
  subst hX9_3
  have hN : Own w0 u [row (B1) 30 #[.iface 40 (.pointer (some ⟨nd5, 0, none⟩)), .int .i32 loc], row (pb) 206 PC, ((mp, .map #[⟨.string ⟨#[95, 95, 115, 117, 112, 101, 114, 87, 114, 97, 112, 112, 101, 114]⟩, .agg #[.int .i32 0, .int .u32 0, .int .u32 2], 0⟩, ⟨.string ⟨#[95, 95, 115, 117, 112, 101, 114, 71, 101, 116]⟩, .agg #[.int .i32 0, .int .u32 0, .int .u32 3], 1⟩, ⟨.string ⟨#[95, 95, 112, 114, 105, 118, 97, 116, 101, 87, 114, 97, 112, 112, 101, 114]⟩, .agg #[.int .i32 0, .int .u32 0, .int .u32 4], 2⟩] 3) : Rw), row (cr) 68 #[.int .u32 0, .int .u32 1], row (nd5) 44 #[.iface 52 (.pointer (some ⟨nd6, 0, none⟩)), .int .i32 loc, .string ⟨#[95]⟩, .int .i32 loc, .int .u8 0, .bool false, .bool false, .bool false], row (B1_2) 30 #[.iface 244 (.pointer (some ⟨kx, 0, none⟩)), .int .i32 tl], row (B1_1) 30 #[.nilIface, .int .i32 0]] X := hO.back HL.out HX.out [0, 1] (by decide) (by decide)
  clear hO HL HX
  have hO := hN
  clear hN
  obtain ⟨c9_0_0, c9_0_1, lt9_0, y9_0, -⟩ := hO.k2 0 rfl
  obtain ⟨c9_3_0, c9_3_1, lt9_3, y9_3, -⟩ := hO.k2 3 rfl
  obtain ⟨c9_4_0, c9_4_1, c9_4_2, c9_4_3, c9_4_4, c9_4_5, c9_4_6, c9_4_7, lt9_4, y9_4, -⟩ := hO.k8 4 rfl
  obtain ⟨c9_5_0, c9_5_1, lt9_5, y9_5, -⟩ := hO.k2 5 rfl
  obtain ⟨c9_6_0, c9_6_1, lt9_6, y9_6, -⟩ := hO.k2 6 rfl
  have HO := Lib.hid hO
  clear hO
  have fi0 : u.cell? ⟨d, 0, none⟩ = some (.iface 244 (.pointer (some ⟨kx, 0, none⟩))) := Base.RowAt.cell (show Base.RowAt u d 211 #[.iface 244 (.pointer (some ⟨kx, 0, none⟩)), .int .i32 tl, .iface 220 (.pointer (some ⟨ib, 0, none⟩)), .int .i32 il, .int .i32 0, .int .u8 0, .bool false, .bool false, .bool false] from (HO.out.frame _ _ hxi).2.1) rfl
  have fi1 : u.cell? ⟨d, 1, none⟩ = some (.int .i32 tl) := Base.RowAt.cell (show Base.RowAt u d 211 #[.iface 244 (.pointer (some ⟨kx, 0, none⟩)), .int .i32 tl, .iface 220 (.pointer (some ⟨ib, 0, none⟩)), .int .i32 il, .int .i32 0, .int .u8 0, .bool false, .bool false, .bool false] from (HO.out.frame _ _ hxi).2.1) rfl
  have fi2 : u.cell? ⟨d, 2, none⟩ = some (.iface 220 (.pointer (some ⟨ib, 0, none⟩))) := Base.RowAt.cell (show Base.RowAt u d 211 #[.iface 244 (.pointer (some ⟨kx, 0, none⟩)), .int .i32 tl, .iface 220 (.pointer (some ⟨ib, 0, none⟩)), .int .i32 il, .int .i32 0, .int .u8 0, .bool false, .bool false, .bool false] from (HO.out.frame _ _ hxi).2.1) rfl
  have fi3 : u.cell? ⟨d, 3, none⟩ = some (.int .i32 il) := Base.RowAt.cell (show Base.RowAt u d 211 #[.iface 244 (.pointer (some ⟨kx, 0, none⟩)), .int .i32 tl, .iface 220 (.pointer (some ⟨ib, 0, none⟩)), .int .i32 il, .int .i32 0, .int .u8 0, .bool false, .bool false, .bool false] from (HO.out.frame _ _ hxi).2.1) rfl
  have fi4 : u.cell? ⟨d, 4, none⟩ = some (.int .i32 0) := Base.RowAt.cell (show Base.RowAt u d 211 #[.iface 244 (.pointer (some ⟨kx, 0, none⟩)), .int .i32 tl, .iface 220 (.pointer (some ⟨ib, 0, none⟩)), .int .i32 il, .int .i32 0, .int .u8 0, .bool false, .bool false, .bool false] from (HO.out.frame _ _ hxi).2.1) rfl
  have fi5 : u.cell? ⟨d, 5, none⟩ = some (.int .u8 0) := Base.RowAt.cell (show Base.RowAt u d 211 #[.iface 244 (.pointer (some ⟨kx, 0, none⟩)), .int .i32 tl, .iface 220 (.pointer (some ⟨ib, 0, none⟩)), .int .i32 il, .int .i32 0, .int .u8 0, .bool false, .bool false, .bool false] from (HO.out.frame _ _ hxi).2.1) rfl
  have fi6 : u.cell? ⟨d, 6, none⟩ = some (.bool false) := Base.RowAt.cell (show Base.RowAt u d 211 #[.iface 244 (.pointer (some ⟨kx, 0, none⟩)), .int .i32 tl, .iface 220 (.pointer (some ⟨ib, 0, none⟩)), .int .i32 il, .int .i32 0, .int .u8 0, .bool false, .bool false, .bool false] from (HO.out.frame _ _ hxi).2.1) rfl
  have fi7 : u.cell? ⟨d, 7, none⟩ = some (.bool false) := Base.RowAt.cell (show Base.RowAt u d 211 #[.iface 244 (.pointer (some ⟨kx, 0, none⟩)), .int .i32 tl, .iface 220 (.pointer (some ⟨ib, 0, none⟩)), .int .i32 il, .int .i32 0, .int .u8 0, .bool false, .bool false, .bool false] from (HO.out.frame _ _ hxi).2.1) rfl
  have fi8 : u.cell? ⟨d, 8, none⟩ = some (.bool false) := Base.RowAt.cell (show Base.RowAt u d 211 #[.iface 244 (.pointer (some ⟨kx, 0, none⟩)), .int .i32 tl, .iface 220 (.pointer (some ⟨ib, 0, none⟩)), .int .i32 il, .int .i32 0, .int .u8 0, .bool false, .bool false, .bool false] from (HO.out.frame _ _ hxi).2.1) rfl
  have fil : d < u.heap.size := Base.block_of_cell fi0
  go_wp2_with (first | (with_reducible refine Own.stay (fn := Tryd.f35) ?_) | (first | (go_at_call 34; go_in)))
  try with_reducible refine Own.Stay.mk ?_
  have hO := HO.out
  clear HO fi0 fi1 fi2 fi3 fi4 fi5 fi6 fi7 fi8 fil c9_0_0 c9_0_1 lt9_0 y9_0 c9_3_0 c9_3_1 lt9_3 y9_3 c9_4_0 c9_4_1 c9_4_2 c9_4_3 c9_4_4 c9_4_5 c9_4_6 c9_4_7 lt9_4 y9_4 c9_5_0 c9_5_1 lt9_5 y9_5 c9_6_0 c9_6_1 lt9_6 y9_6
  generalize hW : World.setCell _ _ _ = W8
  have hN : Own w0 W8 [row (B1) 30 #[.iface 40 (.pointer (some ⟨nd5, 0, none⟩)), .int .i32 loc], row (pb) 206 PC, ((mp, .map #[⟨.string ⟨#[95, 95, 115, 117, 112, 101, 114, 87, 114, 97, 112, 112, 101, 114]⟩, .agg #[.int .i32 0, .int .u32 0, .int .u32 2], 0⟩, ⟨.string ⟨#[95, 95, 115, 117, 112, 101, 114, 71, 101, 116]⟩, .agg #[.int .i32 0, .int .u32 0, .int .u32 3], 1⟩, ⟨.string ⟨#[95, 95, 112, 114, 105, 118, 97, 116, 101, 87, 114, 97, 112, 112, 101, 114]⟩, .agg #[.int .i32 0, .int .u32 0, .int .u32 4], 2⟩] 3) : Rw), row (cr) 68 #[.int .u32 0, .int .u32 1], row (nd5) 44 #[.iface 52 (.pointer (some ⟨nd6, 0, none⟩)), .int .i32 loc, .string ⟨#[95]⟩, .int .i32 loc, .int .u8 0, .bool false, .bool false, .bool false], row (B1_2) 30 #[.iface 244 (.pointer (some ⟨kx, 0, none⟩)), .int .i32 tl], row (B1_1) 30 #[.iface 40 (.pointer (some ⟨nd5, 0, none⟩)), .int .i32 loc]] X := by
    rw [← hW]
    exact ((hO).set 6 rfl 0 _).set 6 rfl 1 _
  clear hW hO
  have hO := hN
  clear hN
  have z9_6_0 : W8.cell? ⟨B1_1, 0, none⟩ = some (.iface 40 (.pointer (some ⟨nd5, 0, none⟩))) := hO.cell 6 rfl 0 rfl
  have z9_6_1 : W8.cell? ⟨B1_1, 1, none⟩ = some (.int .i32 loc) := hO.cell 6 rfl 1 rfl
  refine bodyPost_ret (v := .tuple #[.agg #[.iface 40 (.pointer (some ⟨nd5, 0, none⟩)), .int .i32 loc], .bool true]) ?_ rfl ⟨nd6, nd5, rfl, hO.sub [1, 2, 3, 4] (by decide)⟩
  simp [results, Tryd.results35, go_sem, z9_6_0, z9_6_1]
end Go.Proofs.YtcbdjbjbikiaeaaDoor.Use
