/- A super call, built. No condition. -/
import Derived.Test.YtkhmjppfogppoaaDoorKit
import Derived.Test.YtkhmjppfogppoaaDoorLoop
import Derived.Test.YtkhmjppfogppoaaDoorLive
import Derived.Test.YtkhmjppfogppoaaDoorApp
import Derived.Test.YtkhmjppfogppoaaDoorOwnK
import Derived.Test.YtkhmjppfogppoaaDoorOwn
import Derived.Test.YtkhmjppfogppoaaDoorDeepCells
import Derived.Test.YtkhmjppfogppoaaDoorRows
import Derived.Test.YtkhmjppfogppoaaDoorUse
namespace Go.Proofs.YtkhmjppfogppoaaDoor.Use
open Go.ChangeShapes Go.WideShapes Go.ChangeAt Go.RowKit Go.Sort Own
set_option linter.unusedVariables false
def exprZ : Array Value := #[.nilIface, .int .i32 0]
theorem infoExpr : (Tryd.prog.info? 35).map (fun i => (i.zero, i.size, i.bytes)) = some (some (.agg exprZ), 2, 24) := by kernel_rfl
/-- The argument nodes of a call, as rows of two cells. -/
def argL (loc : Int) (blk : Nat → Nat) (i : Nat) : List Value := [.iface 209 (.pointer (some ⟨blk i, 0, none⟩)), .int .i32 loc]
theorem argL_len (loc : Int) (blk : Nat → Nat) (i : Nat) : (argL loc blk i).length = 2 := rfl
def args (loc : Int) (blk : Nat → Nat) (n : Nat) : List Value := tab (argL loc blk) n
theorem args_len (loc : Int) (blk : Nat → Nat) (n : Nat) : (args loc blk n).length = n * 2 := tab_length (argL_len loc blk) n
theorem args_one (loc : Int) (blk : Nat → Nat) (n : Nat) : ∀ u ∈ args loc blk n, u.oneCell' = true := by
  intro u hu
  obtain ⟨i, -, hi⟩ := List.mem_flatMap.1 hu
  simp only [argL, List.mem_cons, List.not_mem_nil, or_false] at hi
  rcases hi with rfl | rfl <;> rfl
def roomA (loc : Int) (blk : Nat → Nat) (k g : Nat) : Array Value := full exprZ (args loc blk k) g
theorem roomA_at0 (loc : Int) (blk : Nat → Nat) (k g : Nat) : (roomA loc blk k (g + 1))[k * 2]? = some (.nilIface) := by
  have := full_room (z := exprZ) (l := args loc blk k) (c := g) (o := 0) rfl
  rwa [args_len] at this
theorem roomA_at1 (loc : Int) (blk : Nat → Nat) (k g : Nat) : (roomA loc blk k (g + 1))[k * 2 + 1]? = some (.int .i32 0) := by
  have := full_room (z := exprZ) (l := args loc blk k) (c := g) (o := 1) rfl
  rwa [args_len] at this
def upd (blk : Nat → Nat) (k b : Nat) : Nat → Nat := fun i => if i = k then b else blk i
theorem args_upd (loc : Int) (blk : Nat → Nat) (k b : Nat) : args loc (upd blk k b) (k + 1) = args loc blk k ++ [.iface 209 (.pointer (some ⟨b, 0, none⟩)), .int .i32 loc] := by
  unfold args
  rw [tab_succ, tab_congr (g := argL loc blk) (fun i hi => by rw [argL, argL, upd, if_neg (by omega)])]
  rw [argL, upd, if_pos rfl]
theorem roomA_next (loc : Int) (blk : Nat → Nat) (k g b : Nat) : ((roomA loc blk k (g + 1)).setIfInBounds (k * 2) (.iface 209 (.pointer (some ⟨b, 0, none⟩)))).setIfInBounds (k * 2 + 1) (.int .i32 loc) = roomA loc (upd blk k b) (k + 1) g := by
  have := full_next2 (z := exprZ) (l := args loc blk k) (c := g) (.iface 209 (.pointer (some ⟨b, 0, none⟩))) (.int .i32 loc) rfl
  rw [args_len] at this
  unfold roomA
  rw [this, args_upd]
/-- The frame with the argument nodes in it. -/
def argsX (X : Nat → Obj → Prop) (blk : Nat → Nat) (k : Nat) : Nat → Obj → Prop := fun b o => X b o ∨ ∃ i, i < k ∧ b = blk i ∧ o = .cells #[.int .u32 6, .int .u32 (i : Int), .bool false, .bool false, .bool false] 211 (0, 0)
theorem argsX_zero (X : Nat → Obj → Prop) (blk : Nat → Nat) (b : Nat) (o : Obj) (h : argsX X blk 0 b o) : X b o := h.elim id (fun ⟨i, hi, _⟩ => absurd hi (Nat.not_lt_zero i))
theorem argsX_upd (X : Nat → Obj → Prop) (blk : Nat → Nat) (k nd b : Nat) (o : Obj) (h : argsX X (upd blk k nd) (k + 1) b o) : argsX X blk k b o ∨ (b = nd ∧ o = .cells #[.int .u32 6, .int .u32 (k : Int), .bool false, .bool false, .bool false] 211 (0, 0)) := by
  rcases h with h | ⟨i, hi, hb, ho⟩
  · exact Or.inl (Or.inl h)
  · by_cases hk : i = k
    · subst hk
      rw [upd, if_pos rfl] at hb
      exact Or.inr ⟨hb, ho⟩
    · rw [upd, if_neg hk] at hb
      exact Or.inl (Or.inr ⟨i, by omega, hb, ho⟩)
theorem makeExprs (n : Nat) (hn : n ≤ 4096) (w : World) : (Instr.makeSlice 44 (.int .i64 (n : Int)) (.int .i64 (n : Int))).run Tryd.prog w = .ok (.slice (some ⟨w.heap.size, 0, none⟩) n n) (w.alloc (.cells (roomA 0 (fun _ => 0) 0 n) 35)) := by
  obtain ⟨i, hi, z1, z2, z3⟩ := info_parts infoExpr
  exact run_mk_full w 44 35 i (.agg exprZ) 2 24 Tryd.underlying44 hi z1 z2 z3 rfl .i64 .i64 n n (Nat.le_refl _) (by omega) (by omega)

def supEPost (loc : Int) (w0 : World) (X : Nat → Obj → Prop) (e : Ending) (w' : World) : Prop :=
  ∃ sp : Nat, e = .returned (.agg #[.iface 229 (.pointer (some ⟨sp, 0, none⟩)), .int .i32 loc]) ∧ Own w0 w' [] X
set_option maxRecDepth 100000 in
set_option maxHeartbeats 1000000 in
theorem supE (loc : Int) (w0 w : World) (X : Nat → Obj → Prop) (hO : Own w0 w [] X)  :
    Calls Tryd.prog 44 #[.int .i32 loc] w (supEPost loc w0 X) := by
  go_enter Tryd.func44, Tryd.ntmps44
  go_wp2_with (first | (with_reducible refine Own.stay (fn := Tryd.f44) ?_) | fail)
  try with_reducible refine Own.Stay.mk ?_
  generalize hW : World.alloc _ _ = W2
  have hN : Own w0 W2 [row (w.heap.size + 1) 254 #[], row (w.heap.size) 35 #[.iface 229 (.pointer (some ⟨w.heap.size + 1, 0, none⟩)), .int .i32 loc]] X := by
    rw [← hW]
    exact ((hO).alloc' _ (w.heap.size) (by simp)).alloc' _ (w.heap.size + 1) (by simp)
  clear hW hO
  generalize w.heap.size + 1 = B1_1 at hN ⊢
  generalize w.heap.size = B1 at hN ⊢
  have hO := hN
  clear hN
  have z9_1_0 : W2.cell? ⟨B1, 0, none⟩ = some (.iface 229 (.pointer (some ⟨B1_1, 0, none⟩))) := hO.cell 1 rfl 0 rfl
  have z9_1_1 : W2.cell? ⟨B1, 1, none⟩ = some (.int .i32 loc) := hO.cell 1 rfl 1 rfl
  refine bodyPost_ret (v := .agg #[.iface 229 (.pointer (some ⟨B1_1, 0, none⟩)), .int .i32 loc]) ?_ rfl ⟨B1_1, rfl, hO.sub [] (by decide)⟩
  simp [results, Tryd.results44, go_sem, z9_1_0, z9_1_1]
def dotEPost (loc : Int) (tT tb : Nat) (l2 : Int) (nm : ByteArray) (w0 : World) (X : Nat → Obj → Prop) (e : Ending) (w' : World) : Prop :=
  ∃ td : Nat, e = .returned (.agg #[.iface 225 (.pointer (some ⟨td, 0, none⟩)), .int .i32 loc]) ∧ Own w0 w' [row (td) 228 #[.iface tT (.pointer (some ⟨tb, 0, none⟩)), .int .i32 l2, .string nm, .int .i32 loc, .int .u8 0, .bool false, .bool false, .bool false]] X
set_option maxRecDepth 100000 in
set_option maxHeartbeats 1000000 in
theorem dotE (loc : Int) (tT tb : Nat) (l2 : Int) (nm : ByteArray) (w0 w : World) (X : Nat → Obj → Prop) (hO : Own w0 w [] X)  :
    Calls Tryd.prog 43 #[.int .i32 loc, .agg #[.iface tT (.pointer (some ⟨tb, 0, none⟩)), .int .i32 l2], .string nm] w (dotEPost loc tT tb l2 nm w0 X) := by
  go_enter Tryd.func43, Tryd.ntmps43
  go_wp2_with (first | (with_reducible refine Own.stay (fn := Tryd.f43) ?_) | fail)
  try with_reducible refine Own.Stay.mk ?_
  generalize hW : World.alloc _ _ = W2
  have hN : Own w0 W2 [row (w.heap.size + 1 + 1) 228 #[.iface tT (.pointer (some ⟨tb, 0, none⟩)), .int .i32 l2, .string nm, .int .i32 loc, .int .u8 0, .bool false, .bool false, .bool false], row (w.heap.size + 1) 35 #[.iface 225 (.pointer (some ⟨w.heap.size + 1 + 1, 0, none⟩)), .int .i32 loc], row (w.heap.size) 35 #[.iface tT (.pointer (some ⟨tb, 0, none⟩)), .int .i32 l2]] X := by
    rw [← hW]
    exact (((hO).alloc' _ (w.heap.size) (by simp)).alloc' _ (w.heap.size + 1) (by simp)).alloc' _ (w.heap.size + 1 + 1) (by simp)
  clear hW hO
  generalize w.heap.size + 1 + 1 = B1_2 at hN ⊢
  generalize w.heap.size + 1 = B1_1 at hN ⊢
  generalize w.heap.size = B1 at hN ⊢
  have hO := hN
  clear hN
  have z9_1_0 : W2.cell? ⟨B1_1, 0, none⟩ = some (.iface 225 (.pointer (some ⟨B1_2, 0, none⟩))) := hO.cell 1 rfl 0 rfl
  have z9_1_1 : W2.cell? ⟨B1_1, 1, none⟩ = some (.int .i32 loc) := hO.cell 1 rfl 1 rfl
  refine bodyPost_ret (v := .agg #[.iface 225 (.pointer (some ⟨B1_2, 0, none⟩)), .int .i32 loc]) ?_ rfl ⟨B1_2, rfl, hO.sub [0] (by decide)⟩
  simp [results, Tryd.results43, go_sem, z9_1_0, z9_1_1]
def idxEPost (loc : Int) (tT tb : Nat) (l2 : Int) (kT kb : Nat) (l3 : Int) (w0 : World) (X : Nat → Obj → Prop) (e : Ending) (w' : World) : Prop :=
  ∃ td : Nat, e = .returned (.agg #[.iface 231 (.pointer (some ⟨td, 0, none⟩)), .int .i32 loc]) ∧ Own w0 w' [row (td) 234 #[.iface tT (.pointer (some ⟨tb, 0, none⟩)), .int .i32 l2, .iface kT (.pointer (some ⟨kb, 0, none⟩)), .int .i32 l3, .int .i32 0, .int .u8 0, .bool false, .bool false, .bool false]] X
set_option maxRecDepth 100000 in
set_option maxHeartbeats 1000000 in
theorem idxE (loc : Int) (tT tb : Nat) (l2 : Int) (kT kb : Nat) (l3 : Int) (w0 w : World) (X : Nat → Obj → Prop) (hO : Own w0 w [] X)  :
    Calls Tryd.prog 45 #[.int .i32 loc, .agg #[.iface tT (.pointer (some ⟨tb, 0, none⟩)), .int .i32 l2], .agg #[.iface kT (.pointer (some ⟨kb, 0, none⟩)), .int .i32 l3]] w (idxEPost loc tT tb l2 kT kb l3 w0 X) := by
  go_enter Tryd.func45, Tryd.ntmps45
  go_wp2_with (first | (with_reducible refine Own.stay (fn := Tryd.f45) ?_) | fail)
  try with_reducible refine Own.Stay.mk ?_
  generalize hW : World.alloc _ _ = W2
  have hN : Own w0 W2 [row (w.heap.size + 1 + 1 + 1) 234 #[.iface tT (.pointer (some ⟨tb, 0, none⟩)), .int .i32 l2, .iface kT (.pointer (some ⟨kb, 0, none⟩)), .int .i32 l3, .int .i32 0, .int .u8 0, .bool false, .bool false, .bool false], row (w.heap.size + 1 + 1) 35 #[.iface 231 (.pointer (some ⟨w.heap.size + 1 + 1 + 1, 0, none⟩)), .int .i32 loc], row (w.heap.size + 1) 35 #[.iface kT (.pointer (some ⟨kb, 0, none⟩)), .int .i32 l3], row (w.heap.size) 35 #[.iface tT (.pointer (some ⟨tb, 0, none⟩)), .int .i32 l2]] X := by
    rw [← hW]
    exact ((((hO).alloc' _ (w.heap.size) (by simp)).alloc' _ (w.heap.size + 1) (by simp)).alloc' _ (w.heap.size + 1 + 1) (by simp)).alloc' _ (w.heap.size + 1 + 1 + 1) (by simp)
  clear hW hO
  generalize w.heap.size + 1 + 1 + 1 = B1_3 at hN ⊢
  generalize w.heap.size + 1 + 1 = B1_2 at hN ⊢
  generalize w.heap.size + 1 = B1_1 at hN ⊢
  generalize w.heap.size = B1 at hN ⊢
  have hO := hN
  clear hN
  have z9_1_0 : W2.cell? ⟨B1_2, 0, none⟩ = some (.iface 231 (.pointer (some ⟨B1_3, 0, none⟩))) := hO.cell 1 rfl 0 rfl
  have z9_1_1 : W2.cell? ⟨B1_2, 1, none⟩ = some (.int .i32 loc) := hO.cell 1 rfl 1 rfl
  refine bodyPost_ret (v := .agg #[.iface 231 (.pointer (some ⟨B1_3, 0, none⟩)), .int .i32 loc]) ?_ rfl ⟨B1_3, rfl, hO.sub [0] (by decide)⟩
  simp [results, Tryd.results45, go_sem, z9_1_0, z9_1_1]
def callEPost (tT tb : Nat) (l2 : Int) (ab ln cp : Nat) (w0 : World) (X : Nat → Obj → Prop) (e : Ending) (w' : World) : Prop :=
  ∃ ec : Nat, e = .returned (.pointer (some ⟨ec, 0, none⟩)) ∧ Own w0 w' [row (ec) 71 #[.iface tT (.pointer (some ⟨tb, 0, none⟩)), .int .i32 l2, .slice (some ⟨ab, 0, none⟩) ln cp, .int .i32 0, .int .u8 0, .int .u8 0, .bool false, .bool false]] X
set_option maxRecDepth 100000 in
set_option maxHeartbeats 1000000 in
theorem callE (tT tb : Nat) (l2 : Int) (ab ln cp : Nat) (w0 w : World) (X : Nat → Obj → Prop) (hO : Own w0 w [] X)  :
    Calls Tryd.prog 46 #[.agg #[.iface tT (.pointer (some ⟨tb, 0, none⟩)), .int .i32 l2], .slice (some ⟨ab, 0, none⟩) ln cp] w (callEPost tT tb l2 ab ln cp w0 X) := by
  go_enter Tryd.func46, Tryd.ntmps46
  go_wp2_with (first | (with_reducible refine Own.stay (fn := Tryd.f46) ?_) | fail)
  try with_reducible refine Own.Stay.mk ?_
  generalize hW : World.alloc _ _ = W2
  have hN : Own w0 W2 [row (w.heap.size + 1) 71 #[.iface tT (.pointer (some ⟨tb, 0, none⟩)), .int .i32 l2, .slice (some ⟨ab, 0, none⟩) ln cp, .int .i32 0, .int .u8 0, .int .u8 0, .bool false, .bool false], row (w.heap.size) 35 #[.iface tT (.pointer (some ⟨tb, 0, none⟩)), .int .i32 l2]] X := by
    rw [← hW]
    exact ((hO).alloc' _ (w.heap.size) (by simp)).alloc' _ (w.heap.size + 1) (by simp)
  clear hW hO
  generalize w.heap.size + 1 = B1_1 at hN ⊢
  generalize w.heap.size = B1 at hN ⊢
  have hO := hN
  clear hN
  refine bodyPost_ret (v := .pointer (some ⟨B1_1, 0, none⟩)) ?_ rfl ⟨B1_1, rfl, hO.sub [0] (by decide)⟩
  simp [results, Tryd.results46, go_sem]
def buildCallX0Post (kind : Int) (name : ByteArray) (n : Nat) (loc im : Int) (w0 : World) (X : Nat → Obj → Prop) (e : Ending) (w' : World) : Prop :=
  ∃ ec : Nat, ∃ tg : Nat, ∃ sp : Nat, ∃ ab : Nat, ∃ ib : Nat, ∃ blk : Nat → Nat, e = .returned (.pointer (some ⟨ec, 0, none⟩)) ∧ Own w0 w' [row (ec) 71 #[.iface 225 (.pointer (some ⟨tg, 0, none⟩)), .int .i32 loc, .slice (some ⟨ab, 0, none⟩) n n, .int .i32 0, .int .u8 0, .int .u8 0, .bool false, .bool false], row (tg) 228 #[.iface 229 (.pointer (some ⟨sp, 0, none⟩)), .int .i32 loc, .string name, .int .i32 loc, .int .u8 0, .bool false, .bool false, .bool false], row (ab) 35 ((args loc blk n).toArray), row (ib) 211 #[.int .u32 5, .int .u32 im, .bool false, .bool false, .bool false]] (argsX X blk n)
set_option maxRecDepth 100000 in
set_option maxHeartbeats 1000000 in
theorem buildCallX0 (kind : Int) (name : ByteArray) (n : Nat) (loc im : Int) (w0 w : World) (X : Nat → Obj → Prop) (hO : Own w0 w [] X) (hkd : kind.tmod 4 = 0) (hn : n ≤ 4096) :
    Calls Tryd.prog 28 #[.int .u8 kind, .string name, .int .i64 (n : Int), .int .i32 loc, .int .u32 im] w (buildCallX0Post kind name n loc im w0 X) := by
  go_enter Tryd.func28, Tryd.ntmps28
  have hnn : (n : Int) ≤ 4096 := by omega
  have hmk := makeExprs n hn
  go_wp2_with (first | (with_reducible refine Own.stay (fn := Tryd.f28) ?_) | fail)
  try with_reducible refine Own.Stay.mk ?_
  have hL := hO.apart
  have hX := hO.apartX
  have HL := Lib.hid hL
  have HX := Lib.hid hX
  clear hL hX
  have hP9 := hO.pick [] (by decide)
  have T9 := idE loc 5 im _ _ _ hP9 
  refine Calls.mono T9 ?_
  clear hP9 T9
  rintro e u1 ⟨nd2, rfl, hQ⟩
  have hN : Own w0 u1 [row (nd2) 211 #[.int .u32 5, .int .u32 im, .bool false, .bool false, .bool false]] X := hQ.back HL.out HX.out [] (by decide) (by decide)
  clear hQ HL HX hO
  have hO := hN
  clear hN
  obtain ⟨ix9, hix9, hax9, hjx9⟩ := hO.ix
  have ix9_0 : ix9 nd2 = 0 := hjx9 0 _ _ rfl
  clear hjx9
  obtain ⟨c9_0_0, c9_0_1, c9_0_2, c9_0_3, c9_0_4, lt9_0, y9_0, -⟩ := hO.k5 0 rfl
  have HO := Lib.hid hO
  clear hO
  go_wp2_with (first | (with_reducible refine Own.stay (fn := Tryd.f28) ?_) | fail)
  try with_reducible refine Own.Stay.mk ?_
  have hO := HO.out
  clear HO hix9 hax9 ix9_0 ix9 c9_0_0 c9_0_1 c9_0_2 c9_0_3 c9_0_4 lt9_0 y9_0
  generalize hW : World.alloc _ _ = W4
  have hN : Own w0 W4 [row (u1.heap.size + 1) 35 #[.nilIface, .int .i32 0], row (u1.heap.size) 35 #[.iface 209 (.pointer (some ⟨nd2, 0, none⟩)), .int .i32 loc], row (nd2) 211 #[.int .u32 5, .int .u32 im, .bool false, .bool false, .bool false]] X := by
    rw [← hW]
    exact ((hO).alloc' _ (u1.heap.size) (by simp)).alloc' _ (u1.heap.size + 1) (by simp)
  clear hW hO
  generalize u1.heap.size + 1 = B3_1 at hN ⊢
  generalize u1.heap.size = B3 at hN ⊢
  have hO := hN
  clear hN
  have hL := hO.apart
  have hX := hO.apartX
  have HL := Lib.hid hL
  have HX := Lib.hid hX
  clear hL hX
  have hP9 := hO.pick [] (by decide)
  have T9 := supE loc _ _ _ hP9 
  refine Calls.mono T9 ?_
  clear hP9 T9
  rintro e u5 ⟨nd6, rfl, hQ⟩
  have hN : Own w0 u5 [row (B3_1) 35 #[.nilIface, .int .i32 0], row (B3) 35 #[.iface 209 (.pointer (some ⟨nd2, 0, none⟩)), .int .i32 loc], row (nd2) 211 #[.int .u32 5, .int .u32 im, .bool false, .bool false, .bool false]] X := hQ.back HL.out HX.out [0, 1, 2] (by decide) (by decide)
  clear hQ HL HX hO
  have hO := hN
  clear hN
  obtain ⟨ix9, hix9, hax9, hjx9⟩ := hO.ix
  have ix9_0 : ix9 B3_1 = 0 := hjx9 0 _ _ rfl
  have ix9_1 : ix9 B3 = 1 := hjx9 1 _ _ rfl
  have ix9_2 : ix9 nd2 = 2 := hjx9 2 _ _ rfl
  clear hjx9
  obtain ⟨c9_0_0, c9_0_1, lt9_0, y9_0, pl9_0⟩ := hO.k2 0 rfl
  obtain ⟨c9_1_0, c9_1_1, lt9_1, y9_1, pl9_1⟩ := hO.k2 1 rfl
  obtain ⟨c9_2_0, c9_2_1, c9_2_2, c9_2_3, c9_2_4, lt9_2, y9_2, -⟩ := hO.k5 2 rfl
  have HO := Lib.hid hO
  clear hO
  go_wp2_with (first | (with_reducible refine Own.stay (fn := Tryd.f28) ?_) | fail)
  try with_reducible refine Own.Stay.mk ?_
  have hO := HO.out
  clear HO hix9 hax9 ix9_0 ix9_1 ix9_2 ix9 c9_0_0 c9_0_1 lt9_0 y9_0 pl9_0 c9_1_0 c9_1_1 lt9_1 y9_1 pl9_1 c9_2_0 c9_2_1 c9_2_2 c9_2_3 c9_2_4 lt9_2 y9_2
  have hL := hO.apart
  have hX := hO.apartX
  have HL := Lib.hid hL
  have HX := Lib.hid hX
  clear hL hX
  have hP9 := hO.pick [] (by decide)
  have T9 := dotE loc 229 nd6 loc name _ _ _ hP9 
  refine Calls.mono T9 ?_
  clear hP9 T9
  rintro e u7 ⟨nd8, rfl, hQ⟩
  have hN : Own w0 u7 [row (nd8) 228 #[.iface 229 (.pointer (some ⟨nd6, 0, none⟩)), .int .i32 loc, .string name, .int .i32 loc, .int .u8 0, .bool false, .bool false, .bool false], row (B3_1) 35 #[.nilIface, .int .i32 0], row (B3) 35 #[.iface 209 (.pointer (some ⟨nd2, 0, none⟩)), .int .i32 loc], row (nd2) 211 #[.int .u32 5, .int .u32 im, .bool false, .bool false, .bool false]] X := hQ.back HL.out HX.out [0, 1, 2] (by decide) (by decide)
  clear hQ HL HX hO
  have hO := hN
  clear hN
  obtain ⟨ix9, hix9, hax9, hjx9⟩ := hO.ix
  have ix9_0 : ix9 nd8 = 0 := hjx9 0 _ _ rfl
  have ix9_1 : ix9 B3_1 = 1 := hjx9 1 _ _ rfl
  have ix9_2 : ix9 B3 = 2 := hjx9 2 _ _ rfl
  have ix9_3 : ix9 nd2 = 3 := hjx9 3 _ _ rfl
  clear hjx9
  obtain ⟨c9_0_0, c9_0_1, c9_0_2, c9_0_3, c9_0_4, c9_0_5, c9_0_6, c9_0_7, lt9_0, y9_0, -⟩ := hO.k8 0 rfl
  obtain ⟨c9_1_0, c9_1_1, lt9_1, y9_1, pl9_1⟩ := hO.k2 1 rfl
  obtain ⟨c9_2_0, c9_2_1, lt9_2, y9_2, pl9_2⟩ := hO.k2 2 rfl
  obtain ⟨c9_3_0, c9_3_1, c9_3_2, c9_3_3, c9_3_4, lt9_3, y9_3, -⟩ := hO.k5 3 rfl
  have HO := Lib.hid hO
  clear hO
  go_wp2_with (first | (with_reducible refine Own.stay (fn := Tryd.f28) ?_) | fail)
  try with_reducible refine Own.Stay.mk ?_
  have hO := HO.out
  clear HO hix9 hax9 ix9_0 ix9_1 ix9_2 ix9_3 ix9 c9_0_0 c9_0_1 c9_0_2 c9_0_3 c9_0_4 c9_0_5 c9_0_6 c9_0_7 lt9_0 y9_0 c9_1_0 c9_1_1 lt9_1 y9_1 pl9_1 c9_2_0 c9_2_1 lt9_2 y9_2 pl9_2 c9_3_0 c9_3_1 c9_3_2 c9_3_3 c9_3_4 lt9_3 y9_3
  generalize hW : World.alloc _ _ = W10
  have hN : Own w0 W10 [row (u7.heap.size) 35 (roomA 0 (fun x => 0) 0 n), row (nd8) 228 #[.iface 229 (.pointer (some ⟨nd6, 0, none⟩)), .int .i32 loc, .string name, .int .i32 loc, .int .u8 0, .bool false, .bool false, .bool false], row (B3_1) 35 #[.iface 225 (.pointer (some ⟨nd8, 0, none⟩)), .int .i32 loc], row (B3) 35 #[.iface 209 (.pointer (some ⟨nd2, 0, none⟩)), .int .i32 loc], row (nd2) 211 #[.int .u32 5, .int .u32 im, .bool false, .bool false, .bool false]] X := by
    rw [← hW]
    exact (((hO).set 1 rfl 0 _).set 1 rfl 1 _).alloc' _ (u7.heap.size) (by simp)
  clear hW hO
  generalize u7.heap.size = B9 at hN ⊢
  have hO := hN
  clear hN
  go_loopg [15] n (fun gf s15 wx => ∃ (k : Nat) (blk : Nat → Nat), s15 = .int .i64 (k : Int) ∧ k + gf = n ∧ Own w0 wx [row (B9) 35 (roomA loc blk k gf), row (nd8) 228 #[.iface 229 (.pointer (some ⟨nd6, 0, none⟩)), .int .i32 loc, .string name, .int .i32 loc, .int .u8 0, .bool false, .bool false, .bool false], row (B3_1) 35 #[.iface 225 (.pointer (some ⟨nd8, 0, none⟩)), .int .i32 loc], row (B3) 35 #[.iface 209 (.pointer (some ⟨nd2, 0, none⟩)), .int .i32 loc], row (nd2) 211 #[.int .u32 5, .int .u32 im, .bool false, .bool false, .bool false]] (argsX X blk k))
  case atStart => exact ⟨0, fun _ => 0, rfl, by omega, hO.weaken (argsX_zero X _)⟩
  obtain ⟨k, blk, rfl, hk, hO⟩ := hrel
  by_cases hlt : k < n
  · skip
    obtain ⟨gq, rfl⟩ : ∃ gq, gk = gq + 1 := ⟨gk - 1, by omega⟩
    have hlt9 : (k : Int) < n := by omega
    have hk9 : k < n := hlt
    obtain ⟨ix9, hix9, hax9, hjx9⟩ := hO.ix
    have ix9_0 : ix9 B9 = 0 := hjx9 0 _ _ rfl
    have ix9_1 : ix9 nd8 = 1 := hjx9 1 _ _ rfl
    have ix9_2 : ix9 B3_1 = 2 := hjx9 2 _ _ rfl
    have ix9_3 : ix9 B3 = 3 := hjx9 3 _ _ rfl
    have ix9_4 : ix9 nd2 = 4 := hjx9 4 _ _ rfl
    clear hjx9
    have pl9_0 : Base.plainAt wr (B9) = true := hO.plain 0 rfl
    have c9_0_k_2 : wr.cell? ⟨B9, k * 2, none⟩ = some (.nilIface) := hO.cell 0 rfl (k * 2) ((roomA_at0 loc blk k gq))
    have c9_0_k_2_1 : wr.cell? ⟨B9, k * 2 + 1, none⟩ = some (.int .i32 0) := hO.cell 0 rfl (k * 2 + 1) ((roomA_at1 loc blk k gq))
    have lt9_0 : B9 < wr.heap.size := hO.lt 0 rfl
    have y9_0 : ∀ o, wr.frozen? ⟨B9, o, none⟩ = false := hO.free 0 rfl
    obtain ⟨c9_1_0, c9_1_1, c9_1_2, c9_1_3, c9_1_4, c9_1_5, c9_1_6, c9_1_7, lt9_1, y9_1, -⟩ := hO.k8 1 rfl
    obtain ⟨c9_2_0, c9_2_1, lt9_2, y9_2, pl9_2⟩ := hO.k2 2 rfl
    obtain ⟨c9_3_0, c9_3_1, lt9_3, y9_3, pl9_3⟩ := hO.k2 3 rfl
    obtain ⟨c9_4_0, c9_4_1, c9_4_2, c9_4_3, c9_4_4, lt9_4, y9_4, -⟩ := hO.k5 4 rfl
    have HO := Lib.hid hO
    clear hO
    go_wp2_with (first | (with_reducible refine Own.stay (fn := Tryd.f28) ?_) | fail)
    try with_reducible refine Own.Stay.mk ?_
    have hO := HO.out
    clear HO hix9 hax9 ix9_0 ix9_1 ix9_2 ix9_3 ix9_4 ix9 pl9_0 c9_0_k_2 c9_0_k_2_1 lt9_0 y9_0 c9_1_0 c9_1_1 c9_1_2 c9_1_3 c9_1_4 c9_1_5 c9_1_6 c9_1_7 lt9_1 y9_1 c9_2_0 c9_2_1 lt9_2 y9_2 pl9_2 c9_3_0 c9_3_1 lt9_3 y9_3 pl9_3 c9_4_0 c9_4_1 c9_4_2 c9_4_3 c9_4_4 lt9_4 y9_4
    have hL := hO.apart
    have hX := hO.apartX
    have HL := Lib.hid hL
    have HX := Lib.hid hX
    clear hL hX
    have hP9 := hO.pick [] (by decide)
    have T9 := idE loc 6 (k : Int) _ _ _ hP9 
    refine Calls.mono T9 ?_
    clear hP9 T9
    rintro e u11 ⟨nd12, rfl, hQ⟩
    have hN : Own w0 u11 [row (nd12) 211 #[.int .u32 6, .int .u32 (k : Int), .bool false, .bool false, .bool false], row (B9) 35 (roomA loc blk k (gq + 1)), row (nd8) 228 #[.iface 229 (.pointer (some ⟨nd6, 0, none⟩)), .int .i32 loc, .string name, .int .i32 loc, .int .u8 0, .bool false, .bool false, .bool false], row (B3_1) 35 #[.iface 225 (.pointer (some ⟨nd8, 0, none⟩)), .int .i32 loc], row (B3) 35 #[.iface 209 (.pointer (some ⟨nd2, 0, none⟩)), .int .i32 loc], row (nd2) 211 #[.int .u32 5, .int .u32 im, .bool false, .bool false, .bool false]] (argsX X blk k) := hQ.back HL.out HX.out [0, 1, 2, 3, 4] (by decide) (by decide)
    clear hQ HL HX hO
    have hO := hN
    clear hN
    obtain ⟨ix9, hix9, hax9, hjx9⟩ := hO.ix
    have ix9_0 : ix9 nd12 = 0 := hjx9 0 _ _ rfl
    have ix9_1 : ix9 B9 = 1 := hjx9 1 _ _ rfl
    have ix9_2 : ix9 nd8 = 2 := hjx9 2 _ _ rfl
    have ix9_3 : ix9 B3_1 = 3 := hjx9 3 _ _ rfl
    have ix9_4 : ix9 B3 = 4 := hjx9 4 _ _ rfl
    have ix9_5 : ix9 nd2 = 5 := hjx9 5 _ _ rfl
    clear hjx9
    obtain ⟨c9_0_0, c9_0_1, c9_0_2, c9_0_3, c9_0_4, lt9_0, y9_0, pl9_0⟩ := hO.k5 0 rfl
    have pl9_1 : Base.plainAt u11 (B9) = true := hO.plain 1 rfl
    have c9_1_k_2 : u11.cell? ⟨B9, k * 2, none⟩ = some (.nilIface) := hO.cell 1 rfl (k * 2) ((roomA_at0 loc blk k gq))
    have c9_1_k_2_1 : u11.cell? ⟨B9, k * 2 + 1, none⟩ = some (.int .i32 0) := hO.cell 1 rfl (k * 2 + 1) ((roomA_at1 loc blk k gq))
    have lt9_1 : B9 < u11.heap.size := hO.lt 1 rfl
    have y9_1 : ∀ o, u11.frozen? ⟨B9, o, none⟩ = false := hO.free 1 rfl
    obtain ⟨c9_2_0, c9_2_1, c9_2_2, c9_2_3, c9_2_4, c9_2_5, c9_2_6, c9_2_7, lt9_2, y9_2, -⟩ := hO.k8 2 rfl
    obtain ⟨c9_3_0, c9_3_1, lt9_3, y9_3, pl9_3⟩ := hO.k2 3 rfl
    obtain ⟨c9_4_0, c9_4_1, lt9_4, y9_4, pl9_4⟩ := hO.k2 4 rfl
    obtain ⟨c9_5_0, c9_5_1, c9_5_2, c9_5_3, c9_5_4, lt9_5, y9_5, pl9_5⟩ := hO.k5 5 rfl
    have HO := Lib.hid hO
    clear hO
    go_wp2_with (first | (with_reducible refine Own.stay (fn := Tryd.f28) ?_) | fail)
    try with_reducible refine Own.Stay.mk ?_
    have hO := HO.out
    clear HO hix9 hax9 ix9_0 ix9_1 ix9_2 ix9_3 ix9_4 ix9_5 ix9 c9_0_0 c9_0_1 c9_0_2 c9_0_3 c9_0_4 lt9_0 y9_0 pl9_0 pl9_1 c9_1_k_2 c9_1_k_2_1 lt9_1 y9_1 c9_2_0 c9_2_1 c9_2_2 c9_2_3 c9_2_4 c9_2_5 c9_2_6 c9_2_7 lt9_2 y9_2 c9_3_0 c9_3_1 lt9_3 y9_3 pl9_3 c9_4_0 c9_4_1 lt9_4 y9_4 pl9_4 c9_5_0 c9_5_1 c9_5_2 c9_5_3 c9_5_4 lt9_5 y9_5 pl9_5
    generalize hW : World.setCell _ _ _ = W14
    have hN : Own w0 W14 [row (nd12) 211 #[.int .u32 6, .int .u32 (k : Int), .bool false, .bool false, .bool false], row (B9) 35 (((roomA loc blk k (gq + 1)).setIfInBounds (k * 2) (.iface 209 (.pointer (some ⟨nd12, 0, none⟩)))).setIfInBounds (k * 2 + 1) (.int .i32 loc)), row (nd8) 228 #[.iface 229 (.pointer (some ⟨nd6, 0, none⟩)), .int .i32 loc, .string name, .int .i32 loc, .int .u8 0, .bool false, .bool false, .bool false], row (B3_1) 35 #[.iface 225 (.pointer (some ⟨nd8, 0, none⟩)), .int .i32 loc], row (B3) 35 #[.iface 209 (.pointer (some ⟨nd2, 0, none⟩)), .int .i32 loc], row (nd2) 211 #[.int .u32 5, .int .u32 im, .bool false, .bool false, .bool false]] (argsX X blk k) := by
      rw [← hW]
      exact ((hO).set 1 rfl (k * 2) _).set 1 rfl (k * 2 + 1) _
    clear hW hO
    have hO := hN
    clear hN
    have hN : Own w0 W14 [row (nd12) 211 #[.int .u32 6, .int .u32 (k : Int), .bool false, .bool false, .bool false], row (B9) 35 (((roomA loc blk k (gq + 1)).setIfInBounds (k * 2) (.iface 209 (.pointer (some ⟨nd12, 0, none⟩)))).setIfInBounds (k * 2 + 1) (.int .i32 loc)), row (nd8) 228 #[.iface 229 (.pointer (some ⟨nd6, 0, none⟩)), .int .i32 loc, .string name, .int .i32 loc, .int .u8 0, .bool false, .bool false, .bool false], row (B3_1) 35 #[.iface 225 (.pointer (some ⟨nd8, 0, none⟩)), .int .i32 loc], row (B3) 35 #[.iface 209 (.pointer (some ⟨nd2, 0, none⟩)), .int .i32 loc], row (nd2) 211 #[.int .u32 5, .int .u32 im, .bool false, .bool false, .bool false]] (argsX X blk k) := hO.sub [0, 1, 2, 3, 4, 5] (by decide)
    clear hO
    have hO := hN
    clear hN
    have hN : Own w0 W14 [row (nd12) 211 #[.int .u32 6, .int .u32 (k : Int), .bool false, .bool false, .bool false], row (B9) 35 (roomA loc (upd blk k nd12) (k + 1) gq), row (nd8) 228 #[.iface 229 (.pointer (some ⟨nd6, 0, none⟩)), .int .i32 loc, .string name, .int .i32 loc, .int .u8 0, .bool false, .bool false, .bool false], row (B3_1) 35 #[.iface 225 (.pointer (some ⟨nd8, 0, none⟩)), .int .i32 loc], row (B3) 35 #[.iface 209 (.pointer (some ⟨nd2, 0, none⟩)), .int .i32 loc], row (nd2) 211 #[.int .u32 5, .int .u32 im, .bool false, .bool false, .bool false]] (argsX X blk k) := hO.conv (by rw [roomA_next])
    clear hO
    have hO := hN
    clear hN
    go_roundg gq
    case measure => omega
    case rel => exact ⟨k + 1, upd blk k nd12, by simp, by omega, hO.give (argsX_upd X blk k nd12)⟩
  obtain rfl : gk = 0 := by omega
  have hkn : n = k := by omega
  subst hkn
  have hN : Own w0 wr [row (B9) 35 ((args loc blk n).toArray), row (nd8) 228 #[.iface 229 (.pointer (some ⟨nd6, 0, none⟩)), .int .i32 loc, .string name, .int .i32 loc, .int .u8 0, .bool false, .bool false, .bool false], row (B3_1) 35 #[.iface 225 (.pointer (some ⟨nd8, 0, none⟩)), .int .i32 loc], row (B3) 35 #[.iface 209 (.pointer (some ⟨nd2, 0, none⟩)), .int .i32 loc], row (nd2) 211 #[.int .u32 5, .int .u32 im, .bool false, .bool false, .bool false]] (argsX X blk n) := hO.conv (by unfold roomA; rw [full_nil])
  clear hO
  have hO := hN
  clear hN
  obtain ⟨ix9, hix9, hax9, hjx9⟩ := hO.ix
  have ix9_0 : ix9 B9 = 0 := hjx9 0 _ _ rfl
  have ix9_1 : ix9 nd8 = 1 := hjx9 1 _ _ rfl
  have ix9_2 : ix9 B3_1 = 2 := hjx9 2 _ _ rfl
  have ix9_3 : ix9 B3 = 3 := hjx9 3 _ _ rfl
  have ix9_4 : ix9 nd2 = 4 := hjx9 4 _ _ rfl
  clear hjx9
  have pl9_0 : Base.plainAt wr (B9) = true := hO.plain 0 rfl
  obtain ⟨c9_1_0, c9_1_1, c9_1_2, c9_1_3, c9_1_4, c9_1_5, c9_1_6, c9_1_7, lt9_1, y9_1, -⟩ := hO.k8 1 rfl
  obtain ⟨c9_2_0, c9_2_1, lt9_2, y9_2, pl9_2⟩ := hO.k2 2 rfl
  obtain ⟨c9_3_0, c9_3_1, lt9_3, y9_3, pl9_3⟩ := hO.k2 3 rfl
  obtain ⟨c9_4_0, c9_4_1, c9_4_2, c9_4_3, c9_4_4, lt9_4, y9_4, -⟩ := hO.k5 4 rfl
  have HO := Lib.hid hO
  clear hO
  go_wp2_with (first | (with_reducible refine Own.stay (fn := Tryd.f28) ?_) | fail)
  try with_reducible refine Own.Stay.mk ?_
  have hO := HO.out
  clear HO hix9 hax9 ix9_0 ix9_1 ix9_2 ix9_3 ix9_4 ix9 pl9_0 c9_1_0 c9_1_1 c9_1_2 c9_1_3 c9_1_4 c9_1_5 c9_1_6 c9_1_7 lt9_1 y9_1 c9_2_0 c9_2_1 lt9_2 y9_2 pl9_2 c9_3_0 c9_3_1 lt9_3 y9_3 pl9_3 c9_4_0 c9_4_1 c9_4_2 c9_4_3 c9_4_4 lt9_4 y9_4
  have hL := hO.apart
  have hX := hO.apartX
  have HL := Lib.hid hL
  have HX := Lib.hid hX
  clear hL hX
  have hP9 := hO.pick [] (by decide)
  have T9 := callE 225 nd8 loc B9 n n _ _ _ hP9 
  refine Calls.mono T9 ?_
  clear hP9 T9
  rintro e u15 ⟨nd16, rfl, hQ⟩
  have hN : Own w0 u15 [row (nd16) 71 #[.iface 225 (.pointer (some ⟨nd8, 0, none⟩)), .int .i32 loc, .slice (some ⟨B9, 0, none⟩) n n, .int .i32 0, .int .u8 0, .int .u8 0, .bool false, .bool false], row (B9) 35 ((args loc blk n).toArray), row (nd8) 228 #[.iface 229 (.pointer (some ⟨nd6, 0, none⟩)), .int .i32 loc, .string name, .int .i32 loc, .int .u8 0, .bool false, .bool false, .bool false], row (B3_1) 35 #[.iface 225 (.pointer (some ⟨nd8, 0, none⟩)), .int .i32 loc], row (B3) 35 #[.iface 209 (.pointer (some ⟨nd2, 0, none⟩)), .int .i32 loc], row (nd2) 211 #[.int .u32 5, .int .u32 im, .bool false, .bool false, .bool false]] (argsX X blk n) := hQ.back HL.out HX.out [0, 1, 2, 3, 4] (by decide) (by decide)
  clear hQ HL HX hO
  have hO := hN
  clear hN
  obtain ⟨ix9, hix9, hax9, hjx9⟩ := hO.ix
  have ix9_0 : ix9 nd16 = 0 := hjx9 0 _ _ rfl
  have ix9_1 : ix9 B9 = 1 := hjx9 1 _ _ rfl
  have ix9_2 : ix9 nd8 = 2 := hjx9 2 _ _ rfl
  have ix9_3 : ix9 B3_1 = 3 := hjx9 3 _ _ rfl
  have ix9_4 : ix9 B3 = 4 := hjx9 4 _ _ rfl
  have ix9_5 : ix9 nd2 = 5 := hjx9 5 _ _ rfl
  clear hjx9
  obtain ⟨c9_0_0, c9_0_1, c9_0_2, c9_0_3, c9_0_4, c9_0_5, c9_0_6, c9_0_7, lt9_0, y9_0, -⟩ := hO.k8 0 rfl
  have pl9_1 : Base.plainAt u15 (B9) = true := hO.plain 1 rfl
  obtain ⟨c9_2_0, c9_2_1, c9_2_2, c9_2_3, c9_2_4, c9_2_5, c9_2_6, c9_2_7, lt9_2, y9_2, -⟩ := hO.k8 2 rfl
  obtain ⟨c9_3_0, c9_3_1, lt9_3, y9_3, pl9_3⟩ := hO.k2 3 rfl
  obtain ⟨c9_4_0, c9_4_1, lt9_4, y9_4, pl9_4⟩ := hO.k2 4 rfl
  obtain ⟨c9_5_0, c9_5_1, c9_5_2, c9_5_3, c9_5_4, lt9_5, y9_5, -⟩ := hO.k5 5 rfl
  have HO := Lib.hid hO
  clear hO
  go_wp2_with (first | (with_reducible refine Own.stay (fn := Tryd.f28) ?_) | fail)
  try with_reducible refine Own.Stay.mk ?_
  have hO := HO.out
  clear HO hix9 hax9 ix9_0 ix9_1 ix9_2 ix9_3 ix9_4 ix9_5 ix9 c9_0_0 c9_0_1 c9_0_2 c9_0_3 c9_0_4 c9_0_5 c9_0_6 c9_0_7 lt9_0 y9_0 pl9_1 c9_2_0 c9_2_1 c9_2_2 c9_2_3 c9_2_4 c9_2_5 c9_2_6 c9_2_7 lt9_2 y9_2 c9_3_0 c9_3_1 lt9_3 y9_3 pl9_3 c9_4_0 c9_4_1 lt9_4 y9_4 pl9_4 c9_5_0 c9_5_1 c9_5_2 c9_5_3 c9_5_4 lt9_5 y9_5
  refine bodyPost_ret (v := .pointer (some ⟨nd16, 0, none⟩)) ?_ rfl ⟨nd16, nd8, nd6, B9, nd2, blk, rfl, hO.sub [0, 2, 1, 5] (by decide)⟩
  simp [results, Tryd.results28, go_sem]
noncomputable def rBC1_2E (loc : Int) (im : Int) (nd2 : Nat) (B3_1 : Nat) (B3 : Nat) : Nat → Rega.Atoms → Value
  | 0, α => .int .i32 loc
  | 1, α => .int .i32 loc
  | 2, α => .agg #[.iface 229 (.pointer (some ⟨α 2, 0, none⟩)), .int .i32 loc]
  | 3, α => .agg #[.iface 209 (.pointer (some ⟨nd2, 0, none⟩)), .int .i32 loc]
  | 4, α => .agg #[.iface 231 (.pointer (some ⟨α 4, 0, none⟩)), .int .i32 loc]
  | 5, α => undef
  | _, _ => undef
noncomputable def rBC1_2Anc : Nat → List Nat
  | 2 => [1]
  | 4 => [0, 1, 2, 3]
  | 5 => [0, 1, 2, 3, 4]
  | _ => []
noncomputable def rBC1_2Trn : Nat → List Nat
  | 5 => [999]
  | _ => []
noncomputable def rBC1_2Cnt : List (Nat × Nat) := [(4, 1)]
noncomputable def rBC1_2T999 (loc : Int) (im : Int) (nd2 : Nat) (B3_1 : Nat) (B3 : Nat) (L9 : Nat → Bool) (α : Rega.Atoms) : Rw := if L9 5 = true then row (B3_1) 35 #[.iface 231 (.pointer (some ⟨α 4, 0, none⟩)), .int .i32 loc] else row (B3_1) 35 #[.nilIface, .int .i32 0]
noncomputable def rBC1_2R (loc : Int) (im : Int) (nd2 : Nat) (B3_1 : Nat) (B3 : Nat) (L9 : Nat → Bool) (α : Rega.Atoms) (ix9 : Nat) : Rw := if ix9 = 999 then rBC1_2T999 loc im nd2 B3_1 B3 L9 α else if ix9 = 1999 then row (B3) 35 #[.iface 209 (.pointer (some ⟨nd2, 0, none⟩)), .int .i32 loc] else if ix9 = 2999 then row (nd2) 211 #[.int .u32 5, .int .u32 im, .bool false, .bool false, .bool false] else if ix9 = 4 then row (α 4) 234 #[.iface 229 (.pointer (some ⟨α 2, 0, none⟩)), .int .i32 loc, .iface 209 (.pointer (some ⟨nd2, 0, none⟩)), .int .i32 loc, .int .i32 0, .int .u8 0, .bool false, .bool false, .bool false] else (0, .map #[] 0)
theorem rBC1_2_he (loc : Int) (im : Int) (nd2 : Nat) (B3_1 : Nat) (B3 : Nat) : ∀ kk α α', (∀ j, (j % 1000 = kk ∨ j % 1000 ∈ rBC1_2Anc kk) → α j = α' j) → rBC1_2E loc im nd2 B3_1 B3 kk α = rBC1_2E loc im nd2 B3_1 B3 kk α' := by
  intro kk α α' h
  match kk with
  | 0 => rfl
  | 1 => rfl
  | 2 => simp only [rBC1_2E, h 2 (Or.inl rfl)]
  | 3 => rfl
  | 4 => simp only [rBC1_2E, h 4 (Or.inl rfl)]
  | 5 => rfl
  | n + 6 => rfl
theorem rBC1_2_st (loc : Int) (im : Int) (nd2 : Nat) (B3_1 : Nat) (B3 : Nat) : Stable rBC1_2Cnt 3 rBC1_2Anc rBC1_2Trn (rBC1_2R loc im nd2 B3_1 B3) := by
  intro k9 L9 α α' ix9 hk hcl hα hact ht
  have hp := act_places hact
  replace hp : ix9 ∈ [999, 1999, 2999, 4] := hp
  simp only [List.mem_cons, List.not_mem_nil, or_false] at hp
  rcases hp with rfl | rfl | rfl | rfl
  · show rBC1_2T999 loc im nd2 B3_1 B3 (Rega.ran L9 k9) α' = rBC1_2T999 loc im nd2 B3_1 B3 L9 α
    unfold rBC1_2T999
    have n5 : 5 ≠ k9 := fun e => ht (by rw [← e]; decide)
    rw [ran_ne n5]
    by_cases e5 : L9 5 = true
    · first | rw [if_pos e5, if_pos e5] | rw [if_pos e5]
      try simp only [hα 4 (ne_ran hk (hcl 5 e5 4 (by decide)))]
    first | rw [if_neg e5, if_neg e5] | rw [if_neg e5]
  · rfl
  · rfl
  · have e0 : L9 4 = true := act_lt hact (by decide)
    show row (α' 4) 234 #[.iface 229 (.pointer (some ⟨α' 2, 0, none⟩)), .int .i32 loc, .iface 209 (.pointer (some ⟨nd2, 0, none⟩)), .int .i32 loc, .int .i32 0, .int .u8 0, .bool false, .bool false, .bool false] = row (α 4) 234 #[.iface 229 (.pointer (some ⟨α 2, 0, none⟩)), .int .i32 loc, .iface 209 (.pointer (some ⟨nd2, 0, none⟩)), .int .i32 loc, .int .i32 0, .int .u8 0, .bool false, .bool false, .bool false]
    simp only [hα 2 (ne_ran hk (hcl 4 e0 2 (by decide))), hα 4 (ne_ran hk e0)]
def buildCallX1Post (kind : Int) (name : ByteArray) (n : Nat) (loc im : Int) (w0 : World) (X : Nat → Obj → Prop) (e : Ending) (w' : World) : Prop :=
  ∃ ec : Nat, ∃ tg : Nat, ∃ sp : Nat, ∃ ab : Nat, ∃ ib : Nat, ∃ blk : Nat → Nat, e = .returned (.pointer (some ⟨ec, 0, none⟩)) ∧ Own w0 w' [row (ec) 71 #[.iface 231 (.pointer (some ⟨tg, 0, none⟩)), .int .i32 loc, .slice (some ⟨ab, 0, none⟩) n n, .int .i32 0, .int .u8 0, .int .u8 0, .bool false, .bool false], row (tg) 234 #[.iface 229 (.pointer (some ⟨sp, 0, none⟩)), .int .i32 loc, .iface 209 (.pointer (some ⟨ib, 0, none⟩)), .int .i32 loc, .int .i32 0, .int .u8 0, .bool false, .bool false, .bool false], row (ab) 35 ((args loc blk n).toArray), row (ib) 211 #[.int .u32 5, .int .u32 im, .bool false, .bool false, .bool false]] (argsX X blk n)
set_option maxRecDepth 100000 in
set_option maxHeartbeats 1000000 in
theorem buildCallX1 (kind : Int) (name : ByteArray) (n : Nat) (loc im : Int) (w0 w : World) (X : Nat → Obj → Prop) (hO : Own w0 w [] X) (hkd : kind.tmod 4 = 1) (hn : n ≤ 4096) :
    Calls Tryd.prog 28 #[.int .u8 kind, .string name, .int .i64 (n : Int), .int .i32 loc, .int .u32 im] w (buildCallX1Post kind name n loc im w0 X) := by
  go_enter Tryd.func28, Tryd.ntmps28
  have hnn : (n : Int) ≤ 4096 := by omega
  have hmk := makeExprs n hn
  go_wp2_with (first | (with_reducible refine Own.stay (fn := Tryd.f28) ?_) | fail)
  try with_reducible refine Own.Stay.mk ?_
  have hL := hO.apart
  have hX := hO.apartX
  have HL := Lib.hid hL
  have HX := Lib.hid hX
  clear hL hX
  have hP9 := hO.pick [] (by decide)
  have T9 := idE loc 5 im _ _ _ hP9 
  refine Calls.mono T9 ?_
  clear hP9 T9
  rintro e u1 ⟨nd2, rfl, hQ⟩
  have hN : Own w0 u1 [row (nd2) 211 #[.int .u32 5, .int .u32 im, .bool false, .bool false, .bool false]] X := hQ.back HL.out HX.out [] (by decide) (by decide)
  clear hQ HL HX hO
  have hO := hN
  clear hN
  obtain ⟨ix9, hix9, hax9, hjx9⟩ := hO.ix
  have ix9_0 : ix9 nd2 = 0 := hjx9 0 _ _ rfl
  clear hjx9
  obtain ⟨c9_0_0, c9_0_1, c9_0_2, c9_0_3, c9_0_4, lt9_0, y9_0, -⟩ := hO.k5 0 rfl
  have HO := Lib.hid hO
  clear hO
  go_wp2_with (first | (with_reducible refine Own.stay (fn := Tryd.f28) ?_) | fail)
  try with_reducible refine Own.Stay.mk ?_
  have hO := HO.out
  clear HO hix9 hax9 ix9_0 ix9 c9_0_0 c9_0_1 c9_0_2 c9_0_3 c9_0_4 lt9_0 y9_0
  generalize hW : World.alloc _ _ = W4
  have hN : Own w0 W4 [row (u1.heap.size + 1) 35 #[.nilIface, .int .i32 0], row (u1.heap.size) 35 #[.iface 209 (.pointer (some ⟨nd2, 0, none⟩)), .int .i32 loc], row (nd2) 211 #[.int .u32 5, .int .u32 im, .bool false, .bool false, .bool false]] X := by
    rw [← hW]
    exact ((hO).alloc' _ (u1.heap.size) (by simp)).alloc' _ (u1.heap.size + 1) (by simp)
  clear hW hO
  generalize u1.heap.size + 1 = B3_1 at hN ⊢
  generalize u1.heap.size = B3 at hN ⊢
  have hO := hN
  clear hN
  have st9 := rBC1_2_st loc im nd2 B3_1 B3
  let R9 := rBC1_2R loc im nd2 B3_1 B3
  refine wp_region_own (e := rBC1_2E loc im nd2 B3_1 B3) (anc := rBC1_2Anc) (G := (fun L9 α u9 => OwnF w0 u9 (act rBC1_2Cnt 3 L9) (rBC1_2R loc im nd2 B3_1 B3 L9 α) X)) (by kernel_rfl) (by kernel_rfl) (by kernel_rfl) (by kernel_rfl) (rBC1_2_he loc im nd2 B3_1 B3) ?_ (RunsAll.all ?_) ?_
  · have hp : ∀ i, act rBC1_2Cnt 3 (fun _ => false) i → i ∈ [999, 1999, 2999] := by
      intro i hi
      have h9 : i % 1000 = 999 := by
        by_cases h : i % 1000 = 999
        · exact h
        · exact absurd (act_lt hi h) (by simp)
      unfold act at hi
      rw [if_pos h9] at hi
      simp only [List.mem_cons, List.not_mem_nil, or_false]
      omega
    refine hO.drew.family (fun i hi => ?_) (fun i j hi hj hij => ?_)
    · have := hp i hi
      simp only [List.mem_cons, List.not_mem_nil, or_false] at this
      rcases this with rfl | rfl | rfl <;> rfl
    · have h1 := hp i hi
      have h2 := hp j hj
      simp only [List.mem_cons, List.not_mem_nil, or_false] at h1 h2
      omega
  · refine ⟨?_, ?_, ?_, ?_, ?_, ?_, trivial⟩
    · intro L9 α a9 u9 K9 hL hcl hA hG hS h0 hK
      replace hL : L9 0 = false := hL
      have q3 : a9.tmps[3]? = some (.int .i32 loc) := (h0 3 (by kernel_rfl)).trans rfl
      have s3 := Rega.eval_of q3
      go_simp
      exact hK _ α _ (fun _ _ => rfl) rfl (step_same (st9) hL hcl rfl rfl hG)
    · intro L9 α a9 u9 K9 hL hcl hA hG hS h0 hK
      replace hL : L9 1 = false := hL
      have q3 : a9.tmps[3]? = some (.int .i32 loc) := (h0 3 (by kernel_rfl)).trans rfl
      have s3 := Rega.eval_of q3
      go_simp
      exact hK _ α _ (fun _ _ => rfl) rfl (step_same (st9) hL hcl rfl rfl hG)
    · intro L9 α a9 u9 K9 hL hcl hA hG hS h0 hK
      replace hL : L9 2 = false := hL
      have q32 : a9.tmps[32]? = some (.int .i32 loc) := hS 1 32 (by decide) rfl (by show 32 < 61; decide)
      have s32 := Rega.eval_of q32
      go_simp
      have hM : ∀ i, i ∈ [] → act rBC1_2Cnt 3 L9 i := by intro i hi; simp at hi
      have hP : Own w0 u9 [] _ := hG.pick [] (by decide) (by simp)
      clear hM
      refine Calls.mono (supE loc _ _ _ hP ) ?_
      rintro e9 u1 ⟨b0, rfl, hQ⟩
      obtain ⟨α', hα'⟩ : ∃ α' : Rega.Atoms, α' = (fun j => if j = 2 then b0 else α j) := ⟨_, rfl⟩
      have hα : ∀ j, j % 1000 ≠ 2 → α' j = α j := fun j hj => by rw [hα']; simp only []; rw [if_neg (by omega)]
      have hb0 : α' 2 = b0 := by rw [hα']; rfl
      skip
      refine hK _ α' _ hα ?_ (step_call (st9) hL hcl hα [] [] (by decide) (by decide) (by decide) (M := _) ?_ hG hQ)
      · show _ = (.agg #[.iface 229 (.pointer (some ⟨α' 2, 0, none⟩)), .int .i32 loc] : Value)
        simp only [hb0]
      · show [] = _
        rw []
    · intro L9 α a9 u9 K9 hL hcl hA hG hS h0 hK
      replace hL : L9 3 = false := hL
      have q11 : a9.tmps[11]? = some (.pointer (some ⟨B3, 0, none⟩)) := (h0 11 (by kernel_rfl)).trans rfl
      have s11 := Rega.eval_of q11
      have e0 : R9 L9 α 1999 = row (B3) 35 #[.iface 209 (.pointer (some ⟨nd2, 0, none⟩)), .int .i32 loc] := rfl
      have hr := hG.rowAt 1999 (act_base 1999 rfl) e0
      have c0 : u9.cell? ⟨B3, 0, none⟩ = some (.iface 209 (.pointer (some ⟨nd2, 0, none⟩))) := hr.cell rfl
      have c1 : u9.cell? ⟨B3, 1, none⟩ = some (.int .i32 loc) := hr.cell rfl
      clear hr e0
      go_simp
      exact hK _ α _ (fun _ _ => rfl) rfl (step_same (st9) hL hcl rfl rfl hG)
    · intro L9 α a9 u9 K9 hL hcl hA hG hS h0 hK
      replace hL : L9 4 = false := hL
      have q31 : a9.tmps[31]? = some (.int .i32 loc) := hS 0 31 (by decide) rfl (by show 31 < 61; decide)
      have s31 := Rega.eval_of q31
      have q33 : a9.tmps[33]? = some (.agg #[.iface 229 (.pointer (some ⟨α 2, 0, none⟩)), .int .i32 loc]) := hS 2 33 (by decide) rfl (by show 33 < 61; decide)
      have s33 := Rega.eval_of q33
      have q34 : a9.tmps[34]? = some (.agg #[.iface 209 (.pointer (some ⟨nd2, 0, none⟩)), .int .i32 loc]) := hS 3 34 (by decide) rfl (by show 34 < 61; decide)
      have s34 := Rega.eval_of q34
      go_simp
      have hM : ∀ i, i ∈ [] → act rBC1_2Cnt 3 L9 i := by intro i hi; simp at hi
      have hP : Own w0 u9 [] _ := hG.pick [] (by decide) (by simp)
      clear hM
      refine Calls.mono (idxE loc 229 (α 2) loc 209 nd2 loc _ _ _ hP ) ?_
      rintro e9 u1 ⟨b0, rfl, hQ⟩
      obtain ⟨α', hα'⟩ : ∃ α' : Rega.Atoms, α' = (fun j => if j = 4 then b0 else α j) := ⟨_, rfl⟩
      have f0 : R9 (Rega.ran L9 4) α' 4 = row (α' 4) 234 #[.iface 229 (.pointer (some ⟨α' 2, 0, none⟩)), .int .i32 loc, .iface 209 (.pointer (some ⟨nd2, 0, none⟩)), .int .i32 loc, .int .i32 0, .int .u8 0, .bool false, .bool false, .bool false] := rfl
      have hα : ∀ j, j % 1000 ≠ 4 → α' j = α j := fun j hj => by rw [hα']; simp only []; rw [if_neg (by omega)]
      have hb0 : α' 4 = b0 := by rw [hα']; rfl
      have ha2 : α' 2 = α 2 := hα 2 (by decide)
      skip
      refine hK _ α' _ hα ?_ (step_call (st9) hL hcl hα [] [4] (by decide) (by decide) (by decide) (M := _) ?_ hG hQ)
      · show _ = (.agg #[.iface 231 (.pointer (some ⟨α' 4, 0, none⟩)), .int .i32 loc] : Value)
        simp only [hb0]
      · show [R9 (Rega.ran L9 4) α' 4] = _
        rw [f0]
        simp only [hb0, ha2]
    · intro L9 α a9 u9 K9 hL hcl hA hG hS h0 hK
      replace hL : L9 5 = false := hL
      have q13 : a9.tmps[13]? = some (.pointer (some ⟨B3_1, 0, none⟩)) := (h0 13 (by kernel_rfl)).trans rfl
      have s13 := Rega.eval_of q13
      have q35 : a9.tmps[35]? = some (.agg #[.iface 231 (.pointer (some ⟨α 4, 0, none⟩)), .int .i32 loc]) := hS 4 35 (by decide) rfl (by show 35 < 61; decide)
      have s35 := Rega.eval_of q35
      have e0 : R9 L9 α 999 = row (B3_1) 35 #[.nilIface, .int .i32 0] := by
        show rBC1_2T999 loc im nd2 B3_1 B3 L9 α = _
        unfold rBC1_2T999
        rw [if_neg (by rw [hL]; decide)]
      have hr := hG.rowAt 999 (act_base 999 rfl) e0
      have c0 : u9.cell? ⟨B3_1, 0, none⟩ = some (.nilIface) := hr.cell rfl
      have y0 : u9.frozen? ⟨B3_1, 0, none⟩ = false := hr.free (0)
      have c1 : u9.cell? ⟨B3_1, 1, none⟩ = some (.int .i32 0) := hr.cell rfl
      have y1 : u9.frozen? ⟨B3_1, 1, none⟩ = false := hr.free (1)
      clear hr
      have E0 := Lib.hid e0
      clear e0
      go_simp
      have e1 : R9 (Rega.ran L9 5) α 999 = row (B3_1) 35 #[.iface 231 (.pointer (some ⟨α 4, 0, none⟩)), .int .i32 loc] := by
        show rBC1_2T999 loc im nd2 B3_1 B3 (Rega.ran L9 5) α = _
        unfold rBC1_2T999
        rw [if_pos (show Rega.ran L9 5 5 = true from rfl)]
      exact hK _ α _ (fun _ _ => rfl) rfl (step_sets (st9) hL hcl rfl 999 rfl (act_base 999 rfl) E0.out (0) [.iface 231 (.pointer (some ⟨α 4, 0, none⟩)), .int .i32 loc] (e1.trans rfl) hG)
  clear st9
  intro α u hG
  have e0 : R9 (fun k => decide (k < 6)) α 999 = row (B3_1) 35 #[.iface 231 (.pointer (some ⟨α 4, 0, none⟩)), .int .i32 loc] := by
    show rBC1_2T999 loc im nd2 B3_1 B3 (fun k => decide (k < 6)) α = _
    unfold rBC1_2T999
    rw [if_pos (by decide)]
  have e1 : R9 (fun k => decide (k < 6)) α 1999 = row (B3) 35 #[.iface 209 (.pointer (some ⟨nd2, 0, none⟩)), .int .i32 loc] := rfl
  have e2 : R9 (fun k => decide (k < 6)) α 2999 = row (nd2) 211 #[.int .u32 5, .int .u32 im, .bool false, .bool false, .bool false] := rfl
  have e3 : R9 (fun k => decide (k < 6)) α 4 = row (α 4) 234 #[.iface 229 (.pointer (some ⟨α 2, 0, none⟩)), .int .i32 loc, .iface 209 (.pointer (some ⟨nd2, 0, none⟩)), .int .i32 loc, .int .i32 0, .int .u8 0, .bool false, .bool false, .bool false] := rfl
  have hO : Own w0 u [row (B3_1) 35 #[.iface 231 (.pointer (some ⟨α 4, 0, none⟩)), .int .i32 loc], row (B3) 35 #[.iface 209 (.pointer (some ⟨nd2, 0, none⟩)), .int .i32 loc], row (nd2) 211 #[.int .u32 5, .int .u32 im, .bool false, .bool false, .bool false], row (α 4) 234 #[.iface 229 (.pointer (some ⟨α 2, 0, none⟩)), .int .i32 loc, .iface 209 (.pointer (some ⟨nd2, 0, none⟩)), .int .i32 loc, .int .i32 0, .int .u8 0, .bool false, .bool false, .bool false]] X := (hG.list [999, 1999, 2999, 4] (by decide) (act_all (by decide))).conv (by
    show [R9 (fun k => decide (k < 6)) α 999, R9 (fun k => decide (k < 6)) α 1999, R9 (fun k => decide (k < 6)) α 2999, R9 (fun k => decide (k < 6)) α 4] = _
    rw [e0, e1, e2, e3])
  clear hG e0 e1 e2 e3 R9
  generalize hfr : Rega.frameAt _ _ _ _ _ = fr
  have hdf : fr = ⟨#[.int .u8 kind, .string name, .int .i64 (n : Int), .int .i32 loc, .int .u32 im, undef, undef, undef, undef, undef, .pointer none, .pointer (some ⟨B3, 0, none⟩), .int .u8 1, .pointer (some ⟨B3_1, 0, none⟩), undef, undef, .int .i32 loc, .int .u32 im, .agg #[.int .u32 5, .int .u32 im], .agg #[.iface 209 (.pointer (some ⟨nd2, 0, none⟩)), .int .i32 loc], .int .u8 kind, .int .u8 1, .int .u8 1, .bool false, undef, undef, undef, undef, undef, .int .u8 1, .bool true, .int .i32 loc, .int .i32 loc, .agg #[.iface 229 (.pointer (some ⟨α 2, 0, none⟩)), .int .i32 loc], .agg #[.iface 209 (.pointer (some ⟨nd2, 0, none⟩)), .int .i32 loc], .agg #[.iface 231 (.pointer (some ⟨α 4, 0, none⟩)), .int .i32 loc], undef, undef, undef, undef, undef, undef, undef, undef, undef, undef, undef, undef, undef, undef, undef, undef, undef, undef, undef, undef, undef, undef, undef, undef, undef], []⟩ := by rw [← hfr]; kernel_rfl
  clear hfr
  subst hdf
  generalize α 2 = nd5 at hO ⊢
  generalize α 4 = nd6 at hO ⊢
  clear α
  obtain ⟨ix9, hix9, hax9, hjx9⟩ := hO.ix
  have ix9_0 : ix9 B3_1 = 0 := hjx9 0 _ _ rfl
  have ix9_1 : ix9 B3 = 1 := hjx9 1 _ _ rfl
  have ix9_2 : ix9 nd2 = 2 := hjx9 2 _ _ rfl
  have ix9_3 : ix9 nd6 = 3 := hjx9 3 _ _ rfl
  clear hjx9
  obtain ⟨c9_0_0, c9_0_1, lt9_0, y9_0, pl9_0⟩ := hO.k2 0 rfl
  obtain ⟨c9_1_0, c9_1_1, lt9_1, y9_1, pl9_1⟩ := hO.k2 1 rfl
  obtain ⟨c9_2_0, c9_2_1, c9_2_2, c9_2_3, c9_2_4, lt9_2, y9_2, -⟩ := hO.k5 2 rfl
  obtain ⟨c9_3_0, c9_3_1, c9_3_2, c9_3_3, c9_3_4, c9_3_5, c9_3_6, c9_3_7, c9_3_8, lt9_3, y9_3, -⟩ := hO.k9 3 rfl
  have HO := Lib.hid hO
  clear hO
  go_wp2_with (first | (with_reducible refine Own.stay (fn := Tryd.f28) ?_) | fail)
  try with_reducible refine Own.Stay.mk ?_
  have hO := HO.out
  clear HO hix9 hax9 ix9_0 ix9_1 ix9_2 ix9_3 ix9 c9_0_0 c9_0_1 lt9_0 y9_0 pl9_0 c9_1_0 c9_1_1 lt9_1 y9_1 pl9_1 c9_2_0 c9_2_1 c9_2_2 c9_2_3 c9_2_4 lt9_2 y9_2 c9_3_0 c9_3_1 c9_3_2 c9_3_3 c9_3_4 c9_3_5 c9_3_6 c9_3_7 c9_3_8 lt9_3 y9_3
  generalize hW : World.alloc _ _ = W8
  have hN : Own w0 W8 [row (u.heap.size) 35 (roomA 0 (fun x => 0) 0 n), row (B3_1) 35 #[.iface 231 (.pointer (some ⟨nd6, 0, none⟩)), .int .i32 loc], row (B3) 35 #[.iface 209 (.pointer (some ⟨nd2, 0, none⟩)), .int .i32 loc], row (nd2) 211 #[.int .u32 5, .int .u32 im, .bool false, .bool false, .bool false], row (nd6) 234 #[.iface 229 (.pointer (some ⟨nd5, 0, none⟩)), .int .i32 loc, .iface 209 (.pointer (some ⟨nd2, 0, none⟩)), .int .i32 loc, .int .i32 0, .int .u8 0, .bool false, .bool false, .bool false]] X := by
    rw [← hW]
    exact (hO).alloc' _ (u.heap.size) (by simp)
  clear hW hO
  generalize u.heap.size = B7 at hN ⊢
  have hO := hN
  clear hN
  go_loopg [15] n (fun gf s15 wx => ∃ (k : Nat) (blk : Nat → Nat), s15 = .int .i64 (k : Int) ∧ k + gf = n ∧ Own w0 wx [row (B7) 35 (roomA loc blk k gf), row (B3_1) 35 #[.iface 231 (.pointer (some ⟨nd6, 0, none⟩)), .int .i32 loc], row (B3) 35 #[.iface 209 (.pointer (some ⟨nd2, 0, none⟩)), .int .i32 loc], row (nd2) 211 #[.int .u32 5, .int .u32 im, .bool false, .bool false, .bool false], row (nd6) 234 #[.iface 229 (.pointer (some ⟨nd5, 0, none⟩)), .int .i32 loc, .iface 209 (.pointer (some ⟨nd2, 0, none⟩)), .int .i32 loc, .int .i32 0, .int .u8 0, .bool false, .bool false, .bool false]] (argsX X blk k))
  case atStart => exact ⟨0, fun _ => 0, rfl, by omega, hO.weaken (argsX_zero X _)⟩
  obtain ⟨k, blk, rfl, hk, hO⟩ := hrel
  by_cases hlt : k < n
  · skip
    obtain ⟨gq, rfl⟩ : ∃ gq, gk = gq + 1 := ⟨gk - 1, by omega⟩
    have hlt9 : (k : Int) < n := by omega
    have hk9 : k < n := hlt
    obtain ⟨ix9, hix9, hax9, hjx9⟩ := hO.ix
    have ix9_0 : ix9 B7 = 0 := hjx9 0 _ _ rfl
    have ix9_1 : ix9 B3_1 = 1 := hjx9 1 _ _ rfl
    have ix9_2 : ix9 B3 = 2 := hjx9 2 _ _ rfl
    have ix9_3 : ix9 nd2 = 3 := hjx9 3 _ _ rfl
    have ix9_4 : ix9 nd6 = 4 := hjx9 4 _ _ rfl
    clear hjx9
    have pl9_0 : Base.plainAt wr (B7) = true := hO.plain 0 rfl
    have c9_0_k_2 : wr.cell? ⟨B7, k * 2, none⟩ = some (.nilIface) := hO.cell 0 rfl (k * 2) ((roomA_at0 loc blk k gq))
    have c9_0_k_2_1 : wr.cell? ⟨B7, k * 2 + 1, none⟩ = some (.int .i32 0) := hO.cell 0 rfl (k * 2 + 1) ((roomA_at1 loc blk k gq))
    have lt9_0 : B7 < wr.heap.size := hO.lt 0 rfl
    have y9_0 : ∀ o, wr.frozen? ⟨B7, o, none⟩ = false := hO.free 0 rfl
    obtain ⟨c9_1_0, c9_1_1, lt9_1, y9_1, pl9_1⟩ := hO.k2 1 rfl
    obtain ⟨c9_2_0, c9_2_1, lt9_2, y9_2, pl9_2⟩ := hO.k2 2 rfl
    obtain ⟨c9_3_0, c9_3_1, c9_3_2, c9_3_3, c9_3_4, lt9_3, y9_3, -⟩ := hO.k5 3 rfl
    obtain ⟨c9_4_0, c9_4_1, c9_4_2, c9_4_3, c9_4_4, c9_4_5, c9_4_6, c9_4_7, c9_4_8, lt9_4, y9_4, -⟩ := hO.k9 4 rfl
    have HO := Lib.hid hO
    clear hO
    go_wp2_with (first | (with_reducible refine Own.stay (fn := Tryd.f28) ?_) | fail)
    try with_reducible refine Own.Stay.mk ?_
    have hO := HO.out
    clear HO hix9 hax9 ix9_0 ix9_1 ix9_2 ix9_3 ix9_4 ix9 pl9_0 c9_0_k_2 c9_0_k_2_1 lt9_0 y9_0 c9_1_0 c9_1_1 lt9_1 y9_1 pl9_1 c9_2_0 c9_2_1 lt9_2 y9_2 pl9_2 c9_3_0 c9_3_1 c9_3_2 c9_3_3 c9_3_4 lt9_3 y9_3 c9_4_0 c9_4_1 c9_4_2 c9_4_3 c9_4_4 c9_4_5 c9_4_6 c9_4_7 c9_4_8 lt9_4 y9_4
    have hL := hO.apart
    have hX := hO.apartX
    have HL := Lib.hid hL
    have HX := Lib.hid hX
    clear hL hX
    have hP9 := hO.pick [] (by decide)
    have T9 := idE loc 6 (k : Int) _ _ _ hP9 
    refine Calls.mono T9 ?_
    clear hP9 T9
    rintro e u9 ⟨nd10, rfl, hQ⟩
    have hN : Own w0 u9 [row (nd10) 211 #[.int .u32 6, .int .u32 (k : Int), .bool false, .bool false, .bool false], row (B7) 35 (roomA loc blk k (gq + 1)), row (B3_1) 35 #[.iface 231 (.pointer (some ⟨nd6, 0, none⟩)), .int .i32 loc], row (B3) 35 #[.iface 209 (.pointer (some ⟨nd2, 0, none⟩)), .int .i32 loc], row (nd2) 211 #[.int .u32 5, .int .u32 im, .bool false, .bool false, .bool false], row (nd6) 234 #[.iface 229 (.pointer (some ⟨nd5, 0, none⟩)), .int .i32 loc, .iface 209 (.pointer (some ⟨nd2, 0, none⟩)), .int .i32 loc, .int .i32 0, .int .u8 0, .bool false, .bool false, .bool false]] (argsX X blk k) := hQ.back HL.out HX.out [0, 1, 2, 3, 4] (by decide) (by decide)
    clear hQ HL HX hO
    have hO := hN
    clear hN
    obtain ⟨ix9, hix9, hax9, hjx9⟩ := hO.ix
    have ix9_0 : ix9 nd10 = 0 := hjx9 0 _ _ rfl
    have ix9_1 : ix9 B7 = 1 := hjx9 1 _ _ rfl
    have ix9_2 : ix9 B3_1 = 2 := hjx9 2 _ _ rfl
    have ix9_3 : ix9 B3 = 3 := hjx9 3 _ _ rfl
    have ix9_4 : ix9 nd2 = 4 := hjx9 4 _ _ rfl
    have ix9_5 : ix9 nd6 = 5 := hjx9 5 _ _ rfl
    clear hjx9
    obtain ⟨c9_0_0, c9_0_1, c9_0_2, c9_0_3, c9_0_4, lt9_0, y9_0, pl9_0⟩ := hO.k5 0 rfl
    have pl9_1 : Base.plainAt u9 (B7) = true := hO.plain 1 rfl
    have c9_1_k_2 : u9.cell? ⟨B7, k * 2, none⟩ = some (.nilIface) := hO.cell 1 rfl (k * 2) ((roomA_at0 loc blk k gq))
    have c9_1_k_2_1 : u9.cell? ⟨B7, k * 2 + 1, none⟩ = some (.int .i32 0) := hO.cell 1 rfl (k * 2 + 1) ((roomA_at1 loc blk k gq))
    have lt9_1 : B7 < u9.heap.size := hO.lt 1 rfl
    have y9_1 : ∀ o, u9.frozen? ⟨B7, o, none⟩ = false := hO.free 1 rfl
    obtain ⟨c9_2_0, c9_2_1, lt9_2, y9_2, pl9_2⟩ := hO.k2 2 rfl
    obtain ⟨c9_3_0, c9_3_1, lt9_3, y9_3, pl9_3⟩ := hO.k2 3 rfl
    obtain ⟨c9_4_0, c9_4_1, c9_4_2, c9_4_3, c9_4_4, lt9_4, y9_4, pl9_4⟩ := hO.k5 4 rfl
    obtain ⟨c9_5_0, c9_5_1, c9_5_2, c9_5_3, c9_5_4, c9_5_5, c9_5_6, c9_5_7, c9_5_8, lt9_5, y9_5, -⟩ := hO.k9 5 rfl
    have HO := Lib.hid hO
    clear hO
    go_wp2_with (first | (with_reducible refine Own.stay (fn := Tryd.f28) ?_) | fail)
    try with_reducible refine Own.Stay.mk ?_
    have hO := HO.out
    clear HO hix9 hax9 ix9_0 ix9_1 ix9_2 ix9_3 ix9_4 ix9_5 ix9 c9_0_0 c9_0_1 c9_0_2 c9_0_3 c9_0_4 lt9_0 y9_0 pl9_0 pl9_1 c9_1_k_2 c9_1_k_2_1 lt9_1 y9_1 c9_2_0 c9_2_1 lt9_2 y9_2 pl9_2 c9_3_0 c9_3_1 lt9_3 y9_3 pl9_3 c9_4_0 c9_4_1 c9_4_2 c9_4_3 c9_4_4 lt9_4 y9_4 pl9_4 c9_5_0 c9_5_1 c9_5_2 c9_5_3 c9_5_4 c9_5_5 c9_5_6 c9_5_7 c9_5_8 lt9_5 y9_5
    generalize hW : World.setCell _ _ _ = W12
    have hN : Own w0 W12 [row (nd10) 211 #[.int .u32 6, .int .u32 (k : Int), .bool false, .bool false, .bool false], row (B7) 35 (((roomA loc blk k (gq + 1)).setIfInBounds (k * 2) (.iface 209 (.pointer (some ⟨nd10, 0, none⟩)))).setIfInBounds (k * 2 + 1) (.int .i32 loc)), row (B3_1) 35 #[.iface 231 (.pointer (some ⟨nd6, 0, none⟩)), .int .i32 loc], row (B3) 35 #[.iface 209 (.pointer (some ⟨nd2, 0, none⟩)), .int .i32 loc], row (nd2) 211 #[.int .u32 5, .int .u32 im, .bool false, .bool false, .bool false], row (nd6) 234 #[.iface 229 (.pointer (some ⟨nd5, 0, none⟩)), .int .i32 loc, .iface 209 (.pointer (some ⟨nd2, 0, none⟩)), .int .i32 loc, .int .i32 0, .int .u8 0, .bool false, .bool false, .bool false]] (argsX X blk k) := by
      rw [← hW]
      exact ((hO).set 1 rfl (k * 2) _).set 1 rfl (k * 2 + 1) _
    clear hW hO
    have hO := hN
    clear hN
    have hN : Own w0 W12 [row (nd10) 211 #[.int .u32 6, .int .u32 (k : Int), .bool false, .bool false, .bool false], row (B7) 35 (((roomA loc blk k (gq + 1)).setIfInBounds (k * 2) (.iface 209 (.pointer (some ⟨nd10, 0, none⟩)))).setIfInBounds (k * 2 + 1) (.int .i32 loc)), row (B3_1) 35 #[.iface 231 (.pointer (some ⟨nd6, 0, none⟩)), .int .i32 loc], row (B3) 35 #[.iface 209 (.pointer (some ⟨nd2, 0, none⟩)), .int .i32 loc], row (nd2) 211 #[.int .u32 5, .int .u32 im, .bool false, .bool false, .bool false], row (nd6) 234 #[.iface 229 (.pointer (some ⟨nd5, 0, none⟩)), .int .i32 loc, .iface 209 (.pointer (some ⟨nd2, 0, none⟩)), .int .i32 loc, .int .i32 0, .int .u8 0, .bool false, .bool false, .bool false]] (argsX X blk k) := hO.sub [0, 1, 2, 3, 4, 5] (by decide)
    clear hO
    have hO := hN
    clear hN
    have hN : Own w0 W12 [row (nd10) 211 #[.int .u32 6, .int .u32 (k : Int), .bool false, .bool false, .bool false], row (B7) 35 (roomA loc (upd blk k nd10) (k + 1) gq), row (B3_1) 35 #[.iface 231 (.pointer (some ⟨nd6, 0, none⟩)), .int .i32 loc], row (B3) 35 #[.iface 209 (.pointer (some ⟨nd2, 0, none⟩)), .int .i32 loc], row (nd2) 211 #[.int .u32 5, .int .u32 im, .bool false, .bool false, .bool false], row (nd6) 234 #[.iface 229 (.pointer (some ⟨nd5, 0, none⟩)), .int .i32 loc, .iface 209 (.pointer (some ⟨nd2, 0, none⟩)), .int .i32 loc, .int .i32 0, .int .u8 0, .bool false, .bool false, .bool false]] (argsX X blk k) := hO.conv (by rw [roomA_next])
    clear hO
    have hO := hN
    clear hN
    go_roundg gq
    case measure => omega
    case rel => exact ⟨k + 1, upd blk k nd10, by simp, by omega, hO.give (argsX_upd X blk k nd10)⟩
  obtain rfl : gk = 0 := by omega
  have hkn : n = k := by omega
  subst hkn
  have hN : Own w0 wr [row (B7) 35 ((args loc blk n).toArray), row (B3_1) 35 #[.iface 231 (.pointer (some ⟨nd6, 0, none⟩)), .int .i32 loc], row (B3) 35 #[.iface 209 (.pointer (some ⟨nd2, 0, none⟩)), .int .i32 loc], row (nd2) 211 #[.int .u32 5, .int .u32 im, .bool false, .bool false, .bool false], row (nd6) 234 #[.iface 229 (.pointer (some ⟨nd5, 0, none⟩)), .int .i32 loc, .iface 209 (.pointer (some ⟨nd2, 0, none⟩)), .int .i32 loc, .int .i32 0, .int .u8 0, .bool false, .bool false, .bool false]] (argsX X blk n) := hO.conv (by unfold roomA; rw [full_nil])
  clear hO
  have hO := hN
  clear hN
  obtain ⟨ix9, hix9, hax9, hjx9⟩ := hO.ix
  have ix9_0 : ix9 B7 = 0 := hjx9 0 _ _ rfl
  have ix9_1 : ix9 B3_1 = 1 := hjx9 1 _ _ rfl
  have ix9_2 : ix9 B3 = 2 := hjx9 2 _ _ rfl
  have ix9_3 : ix9 nd2 = 3 := hjx9 3 _ _ rfl
  have ix9_4 : ix9 nd6 = 4 := hjx9 4 _ _ rfl
  clear hjx9
  have pl9_0 : Base.plainAt wr (B7) = true := hO.plain 0 rfl
  obtain ⟨c9_1_0, c9_1_1, lt9_1, y9_1, pl9_1⟩ := hO.k2 1 rfl
  obtain ⟨c9_2_0, c9_2_1, lt9_2, y9_2, pl9_2⟩ := hO.k2 2 rfl
  obtain ⟨c9_3_0, c9_3_1, c9_3_2, c9_3_3, c9_3_4, lt9_3, y9_3, -⟩ := hO.k5 3 rfl
  obtain ⟨c9_4_0, c9_4_1, c9_4_2, c9_4_3, c9_4_4, c9_4_5, c9_4_6, c9_4_7, c9_4_8, lt9_4, y9_4, -⟩ := hO.k9 4 rfl
  have HO := Lib.hid hO
  clear hO
  go_wp2_with (first | (with_reducible refine Own.stay (fn := Tryd.f28) ?_) | fail)
  try with_reducible refine Own.Stay.mk ?_
  have hO := HO.out
  clear HO hix9 hax9 ix9_0 ix9_1 ix9_2 ix9_3 ix9_4 ix9 pl9_0 c9_1_0 c9_1_1 lt9_1 y9_1 pl9_1 c9_2_0 c9_2_1 lt9_2 y9_2 pl9_2 c9_3_0 c9_3_1 c9_3_2 c9_3_3 c9_3_4 lt9_3 y9_3 c9_4_0 c9_4_1 c9_4_2 c9_4_3 c9_4_4 c9_4_5 c9_4_6 c9_4_7 c9_4_8 lt9_4 y9_4
  have hL := hO.apart
  have hX := hO.apartX
  have HL := Lib.hid hL
  have HX := Lib.hid hX
  clear hL hX
  have hP9 := hO.pick [] (by decide)
  have T9 := callE 231 nd6 loc B7 n n _ _ _ hP9 
  refine Calls.mono T9 ?_
  clear hP9 T9
  rintro e u13 ⟨nd14, rfl, hQ⟩
  have hN : Own w0 u13 [row (nd14) 71 #[.iface 231 (.pointer (some ⟨nd6, 0, none⟩)), .int .i32 loc, .slice (some ⟨B7, 0, none⟩) n n, .int .i32 0, .int .u8 0, .int .u8 0, .bool false, .bool false], row (B7) 35 ((args loc blk n).toArray), row (B3_1) 35 #[.iface 231 (.pointer (some ⟨nd6, 0, none⟩)), .int .i32 loc], row (B3) 35 #[.iface 209 (.pointer (some ⟨nd2, 0, none⟩)), .int .i32 loc], row (nd2) 211 #[.int .u32 5, .int .u32 im, .bool false, .bool false, .bool false], row (nd6) 234 #[.iface 229 (.pointer (some ⟨nd5, 0, none⟩)), .int .i32 loc, .iface 209 (.pointer (some ⟨nd2, 0, none⟩)), .int .i32 loc, .int .i32 0, .int .u8 0, .bool false, .bool false, .bool false]] (argsX X blk n) := hQ.back HL.out HX.out [0, 1, 2, 3, 4] (by decide) (by decide)
  clear hQ HL HX hO
  have hO := hN
  clear hN
  obtain ⟨ix9, hix9, hax9, hjx9⟩ := hO.ix
  have ix9_0 : ix9 nd14 = 0 := hjx9 0 _ _ rfl
  have ix9_1 : ix9 B7 = 1 := hjx9 1 _ _ rfl
  have ix9_2 : ix9 B3_1 = 2 := hjx9 2 _ _ rfl
  have ix9_3 : ix9 B3 = 3 := hjx9 3 _ _ rfl
  have ix9_4 : ix9 nd2 = 4 := hjx9 4 _ _ rfl
  have ix9_5 : ix9 nd6 = 5 := hjx9 5 _ _ rfl
  clear hjx9
  obtain ⟨c9_0_0, c9_0_1, c9_0_2, c9_0_3, c9_0_4, c9_0_5, c9_0_6, c9_0_7, lt9_0, y9_0, -⟩ := hO.k8 0 rfl
  have pl9_1 : Base.plainAt u13 (B7) = true := hO.plain 1 rfl
  obtain ⟨c9_2_0, c9_2_1, lt9_2, y9_2, pl9_2⟩ := hO.k2 2 rfl
  obtain ⟨c9_3_0, c9_3_1, lt9_3, y9_3, pl9_3⟩ := hO.k2 3 rfl
  obtain ⟨c9_4_0, c9_4_1, c9_4_2, c9_4_3, c9_4_4, lt9_4, y9_4, -⟩ := hO.k5 4 rfl
  obtain ⟨c9_5_0, c9_5_1, c9_5_2, c9_5_3, c9_5_4, c9_5_5, c9_5_6, c9_5_7, c9_5_8, lt9_5, y9_5, -⟩ := hO.k9 5 rfl
  have HO := Lib.hid hO
  clear hO
  go_wp2_with (first | (with_reducible refine Own.stay (fn := Tryd.f28) ?_) | fail)
  try with_reducible refine Own.Stay.mk ?_
  have hO := HO.out
  clear HO hix9 hax9 ix9_0 ix9_1 ix9_2 ix9_3 ix9_4 ix9_5 ix9 c9_0_0 c9_0_1 c9_0_2 c9_0_3 c9_0_4 c9_0_5 c9_0_6 c9_0_7 lt9_0 y9_0 pl9_1 c9_2_0 c9_2_1 lt9_2 y9_2 pl9_2 c9_3_0 c9_3_1 lt9_3 y9_3 pl9_3 c9_4_0 c9_4_1 c9_4_2 c9_4_3 c9_4_4 lt9_4 y9_4 c9_5_0 c9_5_1 c9_5_2 c9_5_3 c9_5_4 c9_5_5 c9_5_6 c9_5_7 c9_5_8 lt9_5 y9_5
  refine bodyPost_ret (v := .pointer (some ⟨nd14, 0, none⟩)) ?_ rfl ⟨nd14, nd6, nd5, B7, nd2, blk, rfl, hO.sub [0, 5, 1, 4] (by decide)⟩
  simp [results, Tryd.results28, go_sem]
def buildCallX2Post (kind : Int) (name : ByteArray) (n : Nat) (loc im : Int) (w0 : World) (X : Nat → Obj → Prop) (e : Ending) (w' : World) : Prop :=
  ∃ ec : Nat, ∃ tg : Nat, ∃ ab : Nat, ∃ ib : Nat, ∃ blk : Nat → Nat, e = .returned (.pointer (some ⟨ec, 0, none⟩)) ∧ Own w0 w' [row (ec) 71 #[.iface 225 (.pointer (some ⟨tg, 0, none⟩)), .int .i32 loc, .slice (some ⟨ab, 0, none⟩) n n, .int .i32 0, .int .u8 0, .int .u8 0, .bool false, .bool false], row (tg) 228 #[.iface 209 (.pointer (some ⟨ib, 0, none⟩)), .int .i32 loc, .string name, .int .i32 loc, .int .u8 0, .bool false, .bool false, .bool false], row (ab) 35 ((args loc blk n).toArray), row (ib) 211 #[.int .u32 5, .int .u32 im, .bool false, .bool false, .bool false]] (argsX X blk n)
set_option maxRecDepth 100000 in
set_option maxHeartbeats 1000000 in
theorem buildCallX2 (kind : Int) (name : ByteArray) (n : Nat) (loc im : Int) (w0 w : World) (X : Nat → Obj → Prop) (hO : Own w0 w [] X) (hkd : kind.tmod 4 = 2) (hn : n ≤ 4096) :
    Calls Tryd.prog 28 #[.int .u8 kind, .string name, .int .i64 (n : Int), .int .i32 loc, .int .u32 im] w (buildCallX2Post kind name n loc im w0 X) := by
  go_enter Tryd.func28, Tryd.ntmps28
  have hnn : (n : Int) ≤ 4096 := by omega
  have hmk := makeExprs n hn
  go_wp2_with (first | (with_reducible refine Own.stay (fn := Tryd.f28) ?_) | fail)
  try with_reducible refine Own.Stay.mk ?_
  have hL := hO.apart
  have hX := hO.apartX
  have HL := Lib.hid hL
  have HX := Lib.hid hX
  clear hL hX
  have hP9 := hO.pick [] (by decide)
  have T9 := idE loc 5 im _ _ _ hP9 
  refine Calls.mono T9 ?_
  clear hP9 T9
  rintro e u1 ⟨nd2, rfl, hQ⟩
  have hN : Own w0 u1 [row (nd2) 211 #[.int .u32 5, .int .u32 im, .bool false, .bool false, .bool false]] X := hQ.back HL.out HX.out [] (by decide) (by decide)
  clear hQ HL HX hO
  have hO := hN
  clear hN
  obtain ⟨ix9, hix9, hax9, hjx9⟩ := hO.ix
  have ix9_0 : ix9 nd2 = 0 := hjx9 0 _ _ rfl
  clear hjx9
  obtain ⟨c9_0_0, c9_0_1, c9_0_2, c9_0_3, c9_0_4, lt9_0, y9_0, -⟩ := hO.k5 0 rfl
  have HO := Lib.hid hO
  clear hO
  go_wp2_with (first | (with_reducible refine Own.stay (fn := Tryd.f28) ?_) | fail)
  try with_reducible refine Own.Stay.mk ?_
  have hO := HO.out
  clear HO hix9 hax9 ix9_0 ix9 c9_0_0 c9_0_1 c9_0_2 c9_0_3 c9_0_4 lt9_0 y9_0
  generalize hW : World.alloc _ _ = W4
  have hN : Own w0 W4 [row (u1.heap.size + 1) 35 #[.nilIface, .int .i32 0], row (u1.heap.size) 35 #[.iface 209 (.pointer (some ⟨nd2, 0, none⟩)), .int .i32 loc], row (nd2) 211 #[.int .u32 5, .int .u32 im, .bool false, .bool false, .bool false]] X := by
    rw [← hW]
    exact ((hO).alloc' _ (u1.heap.size) (by simp)).alloc' _ (u1.heap.size + 1) (by simp)
  clear hW hO
  generalize u1.heap.size + 1 = B3_1 at hN ⊢
  generalize u1.heap.size = B3 at hN ⊢
  have hO := hN
  clear hN
  have hL := hO.apart
  have hX := hO.apartX
  have HL := Lib.hid hL
  have HX := Lib.hid hX
  clear hL hX
  have hP9 := hO.pick [] (by decide)
  have T9 := dotE loc 209 nd2 loc name _ _ _ hP9 
  refine Calls.mono T9 ?_
  clear hP9 T9
  rintro e u5 ⟨nd6, rfl, hQ⟩
  have hN : Own w0 u5 [row (nd6) 228 #[.iface 209 (.pointer (some ⟨nd2, 0, none⟩)), .int .i32 loc, .string name, .int .i32 loc, .int .u8 0, .bool false, .bool false, .bool false], row (B3_1) 35 #[.nilIface, .int .i32 0], row (B3) 35 #[.iface 209 (.pointer (some ⟨nd2, 0, none⟩)), .int .i32 loc], row (nd2) 211 #[.int .u32 5, .int .u32 im, .bool false, .bool false, .bool false]] X := hQ.back HL.out HX.out [0, 1, 2] (by decide) (by decide)
  clear hQ HL HX hO
  have hO := hN
  clear hN
  obtain ⟨ix9, hix9, hax9, hjx9⟩ := hO.ix
  have ix9_0 : ix9 nd6 = 0 := hjx9 0 _ _ rfl
  have ix9_1 : ix9 B3_1 = 1 := hjx9 1 _ _ rfl
  have ix9_2 : ix9 B3 = 2 := hjx9 2 _ _ rfl
  have ix9_3 : ix9 nd2 = 3 := hjx9 3 _ _ rfl
  clear hjx9
  obtain ⟨c9_0_0, c9_0_1, c9_0_2, c9_0_3, c9_0_4, c9_0_5, c9_0_6, c9_0_7, lt9_0, y9_0, -⟩ := hO.k8 0 rfl
  obtain ⟨c9_1_0, c9_1_1, lt9_1, y9_1, pl9_1⟩ := hO.k2 1 rfl
  obtain ⟨c9_2_0, c9_2_1, lt9_2, y9_2, pl9_2⟩ := hO.k2 2 rfl
  obtain ⟨c9_3_0, c9_3_1, c9_3_2, c9_3_3, c9_3_4, lt9_3, y9_3, -⟩ := hO.k5 3 rfl
  have HO := Lib.hid hO
  clear hO
  go_wp2_with (first | (with_reducible refine Own.stay (fn := Tryd.f28) ?_) | fail)
  try with_reducible refine Own.Stay.mk ?_
  have hO := HO.out
  clear HO hix9 hax9 ix9_0 ix9_1 ix9_2 ix9_3 ix9 c9_0_0 c9_0_1 c9_0_2 c9_0_3 c9_0_4 c9_0_5 c9_0_6 c9_0_7 lt9_0 y9_0 c9_1_0 c9_1_1 lt9_1 y9_1 pl9_1 c9_2_0 c9_2_1 lt9_2 y9_2 pl9_2 c9_3_0 c9_3_1 c9_3_2 c9_3_3 c9_3_4 lt9_3 y9_3
  generalize hW : World.alloc _ _ = W8
  have hN : Own w0 W8 [row (u5.heap.size) 35 (roomA 0 (fun x => 0) 0 n), row (nd6) 228 #[.iface 209 (.pointer (some ⟨nd2, 0, none⟩)), .int .i32 loc, .string name, .int .i32 loc, .int .u8 0, .bool false, .bool false, .bool false], row (B3_1) 35 #[.iface 225 (.pointer (some ⟨nd6, 0, none⟩)), .int .i32 loc], row (B3) 35 #[.iface 209 (.pointer (some ⟨nd2, 0, none⟩)), .int .i32 loc], row (nd2) 211 #[.int .u32 5, .int .u32 im, .bool false, .bool false, .bool false]] X := by
    rw [← hW]
    exact (((hO).set 1 rfl 0 _).set 1 rfl 1 _).alloc' _ (u5.heap.size) (by simp)
  clear hW hO
  generalize u5.heap.size = B7 at hN ⊢
  have hO := hN
  clear hN
  go_loopg [15] n (fun gf s15 wx => ∃ (k : Nat) (blk : Nat → Nat), s15 = .int .i64 (k : Int) ∧ k + gf = n ∧ Own w0 wx [row (B7) 35 (roomA loc blk k gf), row (nd6) 228 #[.iface 209 (.pointer (some ⟨nd2, 0, none⟩)), .int .i32 loc, .string name, .int .i32 loc, .int .u8 0, .bool false, .bool false, .bool false], row (B3_1) 35 #[.iface 225 (.pointer (some ⟨nd6, 0, none⟩)), .int .i32 loc], row (B3) 35 #[.iface 209 (.pointer (some ⟨nd2, 0, none⟩)), .int .i32 loc], row (nd2) 211 #[.int .u32 5, .int .u32 im, .bool false, .bool false, .bool false]] (argsX X blk k))
  case atStart => exact ⟨0, fun _ => 0, rfl, by omega, hO.weaken (argsX_zero X _)⟩
  obtain ⟨k, blk, rfl, hk, hO⟩ := hrel
  by_cases hlt : k < n
  · skip
    obtain ⟨gq, rfl⟩ : ∃ gq, gk = gq + 1 := ⟨gk - 1, by omega⟩
    have hlt9 : (k : Int) < n := by omega
    have hk9 : k < n := hlt
    obtain ⟨ix9, hix9, hax9, hjx9⟩ := hO.ix
    have ix9_0 : ix9 B7 = 0 := hjx9 0 _ _ rfl
    have ix9_1 : ix9 nd6 = 1 := hjx9 1 _ _ rfl
    have ix9_2 : ix9 B3_1 = 2 := hjx9 2 _ _ rfl
    have ix9_3 : ix9 B3 = 3 := hjx9 3 _ _ rfl
    have ix9_4 : ix9 nd2 = 4 := hjx9 4 _ _ rfl
    clear hjx9
    have pl9_0 : Base.plainAt wr (B7) = true := hO.plain 0 rfl
    have c9_0_k_2 : wr.cell? ⟨B7, k * 2, none⟩ = some (.nilIface) := hO.cell 0 rfl (k * 2) ((roomA_at0 loc blk k gq))
    have c9_0_k_2_1 : wr.cell? ⟨B7, k * 2 + 1, none⟩ = some (.int .i32 0) := hO.cell 0 rfl (k * 2 + 1) ((roomA_at1 loc blk k gq))
    have lt9_0 : B7 < wr.heap.size := hO.lt 0 rfl
    have y9_0 : ∀ o, wr.frozen? ⟨B7, o, none⟩ = false := hO.free 0 rfl
    obtain ⟨c9_1_0, c9_1_1, c9_1_2, c9_1_3, c9_1_4, c9_1_5, c9_1_6, c9_1_7, lt9_1, y9_1, -⟩ := hO.k8 1 rfl
    obtain ⟨c9_2_0, c9_2_1, lt9_2, y9_2, pl9_2⟩ := hO.k2 2 rfl
    obtain ⟨c9_3_0, c9_3_1, lt9_3, y9_3, pl9_3⟩ := hO.k2 3 rfl
    obtain ⟨c9_4_0, c9_4_1, c9_4_2, c9_4_3, c9_4_4, lt9_4, y9_4, -⟩ := hO.k5 4 rfl
    have HO := Lib.hid hO
    clear hO
    go_wp2_with (first | (with_reducible refine Own.stay (fn := Tryd.f28) ?_) | fail)
    try with_reducible refine Own.Stay.mk ?_
    have hO := HO.out
    clear HO hix9 hax9 ix9_0 ix9_1 ix9_2 ix9_3 ix9_4 ix9 pl9_0 c9_0_k_2 c9_0_k_2_1 lt9_0 y9_0 c9_1_0 c9_1_1 c9_1_2 c9_1_3 c9_1_4 c9_1_5 c9_1_6 c9_1_7 lt9_1 y9_1 c9_2_0 c9_2_1 lt9_2 y9_2 pl9_2 c9_3_0 c9_3_1 lt9_3 y9_3 pl9_3 c9_4_0 c9_4_1 c9_4_2 c9_4_3 c9_4_4 lt9_4 y9_4
    have hL := hO.apart
    have hX := hO.apartX
    have HL := Lib.hid hL
    have HX := Lib.hid hX
    clear hL hX
    have hP9 := hO.pick [] (by decide)
    have T9 := idE loc 6 (k : Int) _ _ _ hP9 
    refine Calls.mono T9 ?_
    clear hP9 T9
    rintro e u9 ⟨nd10, rfl, hQ⟩
    have hN : Own w0 u9 [row (nd10) 211 #[.int .u32 6, .int .u32 (k : Int), .bool false, .bool false, .bool false], row (B7) 35 (roomA loc blk k (gq + 1)), row (nd6) 228 #[.iface 209 (.pointer (some ⟨nd2, 0, none⟩)), .int .i32 loc, .string name, .int .i32 loc, .int .u8 0, .bool false, .bool false, .bool false], row (B3_1) 35 #[.iface 225 (.pointer (some ⟨nd6, 0, none⟩)), .int .i32 loc], row (B3) 35 #[.iface 209 (.pointer (some ⟨nd2, 0, none⟩)), .int .i32 loc], row (nd2) 211 #[.int .u32 5, .int .u32 im, .bool false, .bool false, .bool false]] (argsX X blk k) := hQ.back HL.out HX.out [0, 1, 2, 3, 4] (by decide) (by decide)
    clear hQ HL HX hO
    have hO := hN
    clear hN
    obtain ⟨ix9, hix9, hax9, hjx9⟩ := hO.ix
    have ix9_0 : ix9 nd10 = 0 := hjx9 0 _ _ rfl
    have ix9_1 : ix9 B7 = 1 := hjx9 1 _ _ rfl
    have ix9_2 : ix9 nd6 = 2 := hjx9 2 _ _ rfl
    have ix9_3 : ix9 B3_1 = 3 := hjx9 3 _ _ rfl
    have ix9_4 : ix9 B3 = 4 := hjx9 4 _ _ rfl
    have ix9_5 : ix9 nd2 = 5 := hjx9 5 _ _ rfl
    clear hjx9
    obtain ⟨c9_0_0, c9_0_1, c9_0_2, c9_0_3, c9_0_4, lt9_0, y9_0, pl9_0⟩ := hO.k5 0 rfl
    have pl9_1 : Base.plainAt u9 (B7) = true := hO.plain 1 rfl
    have c9_1_k_2 : u9.cell? ⟨B7, k * 2, none⟩ = some (.nilIface) := hO.cell 1 rfl (k * 2) ((roomA_at0 loc blk k gq))
    have c9_1_k_2_1 : u9.cell? ⟨B7, k * 2 + 1, none⟩ = some (.int .i32 0) := hO.cell 1 rfl (k * 2 + 1) ((roomA_at1 loc blk k gq))
    have lt9_1 : B7 < u9.heap.size := hO.lt 1 rfl
    have y9_1 : ∀ o, u9.frozen? ⟨B7, o, none⟩ = false := hO.free 1 rfl
    obtain ⟨c9_2_0, c9_2_1, c9_2_2, c9_2_3, c9_2_4, c9_2_5, c9_2_6, c9_2_7, lt9_2, y9_2, -⟩ := hO.k8 2 rfl
    obtain ⟨c9_3_0, c9_3_1, lt9_3, y9_3, pl9_3⟩ := hO.k2 3 rfl
    obtain ⟨c9_4_0, c9_4_1, lt9_4, y9_4, pl9_4⟩ := hO.k2 4 rfl
    obtain ⟨c9_5_0, c9_5_1, c9_5_2, c9_5_3, c9_5_4, lt9_5, y9_5, pl9_5⟩ := hO.k5 5 rfl
    have HO := Lib.hid hO
    clear hO
    go_wp2_with (first | (with_reducible refine Own.stay (fn := Tryd.f28) ?_) | fail)
    try with_reducible refine Own.Stay.mk ?_
    have hO := HO.out
    clear HO hix9 hax9 ix9_0 ix9_1 ix9_2 ix9_3 ix9_4 ix9_5 ix9 c9_0_0 c9_0_1 c9_0_2 c9_0_3 c9_0_4 lt9_0 y9_0 pl9_0 pl9_1 c9_1_k_2 c9_1_k_2_1 lt9_1 y9_1 c9_2_0 c9_2_1 c9_2_2 c9_2_3 c9_2_4 c9_2_5 c9_2_6 c9_2_7 lt9_2 y9_2 c9_3_0 c9_3_1 lt9_3 y9_3 pl9_3 c9_4_0 c9_4_1 lt9_4 y9_4 pl9_4 c9_5_0 c9_5_1 c9_5_2 c9_5_3 c9_5_4 lt9_5 y9_5 pl9_5
    generalize hW : World.setCell _ _ _ = W12
    have hN : Own w0 W12 [row (nd10) 211 #[.int .u32 6, .int .u32 (k : Int), .bool false, .bool false, .bool false], row (B7) 35 (((roomA loc blk k (gq + 1)).setIfInBounds (k * 2) (.iface 209 (.pointer (some ⟨nd10, 0, none⟩)))).setIfInBounds (k * 2 + 1) (.int .i32 loc)), row (nd6) 228 #[.iface 209 (.pointer (some ⟨nd2, 0, none⟩)), .int .i32 loc, .string name, .int .i32 loc, .int .u8 0, .bool false, .bool false, .bool false], row (B3_1) 35 #[.iface 225 (.pointer (some ⟨nd6, 0, none⟩)), .int .i32 loc], row (B3) 35 #[.iface 209 (.pointer (some ⟨nd2, 0, none⟩)), .int .i32 loc], row (nd2) 211 #[.int .u32 5, .int .u32 im, .bool false, .bool false, .bool false]] (argsX X blk k) := by
      rw [← hW]
      exact ((hO).set 1 rfl (k * 2) _).set 1 rfl (k * 2 + 1) _
    clear hW hO
    have hO := hN
    clear hN
    have hN : Own w0 W12 [row (nd10) 211 #[.int .u32 6, .int .u32 (k : Int), .bool false, .bool false, .bool false], row (B7) 35 (((roomA loc blk k (gq + 1)).setIfInBounds (k * 2) (.iface 209 (.pointer (some ⟨nd10, 0, none⟩)))).setIfInBounds (k * 2 + 1) (.int .i32 loc)), row (nd6) 228 #[.iface 209 (.pointer (some ⟨nd2, 0, none⟩)), .int .i32 loc, .string name, .int .i32 loc, .int .u8 0, .bool false, .bool false, .bool false], row (B3_1) 35 #[.iface 225 (.pointer (some ⟨nd6, 0, none⟩)), .int .i32 loc], row (B3) 35 #[.iface 209 (.pointer (some ⟨nd2, 0, none⟩)), .int .i32 loc], row (nd2) 211 #[.int .u32 5, .int .u32 im, .bool false, .bool false, .bool false]] (argsX X blk k) := hO.sub [0, 1, 2, 3, 4, 5] (by decide)
    clear hO
    have hO := hN
    clear hN
    have hN : Own w0 W12 [row (nd10) 211 #[.int .u32 6, .int .u32 (k : Int), .bool false, .bool false, .bool false], row (B7) 35 (roomA loc (upd blk k nd10) (k + 1) gq), row (nd6) 228 #[.iface 209 (.pointer (some ⟨nd2, 0, none⟩)), .int .i32 loc, .string name, .int .i32 loc, .int .u8 0, .bool false, .bool false, .bool false], row (B3_1) 35 #[.iface 225 (.pointer (some ⟨nd6, 0, none⟩)), .int .i32 loc], row (B3) 35 #[.iface 209 (.pointer (some ⟨nd2, 0, none⟩)), .int .i32 loc], row (nd2) 211 #[.int .u32 5, .int .u32 im, .bool false, .bool false, .bool false]] (argsX X blk k) := hO.conv (by rw [roomA_next])
    clear hO
    have hO := hN
    clear hN
    go_roundg gq
    case measure => omega
    case rel => exact ⟨k + 1, upd blk k nd10, by simp, by omega, hO.give (argsX_upd X blk k nd10)⟩
  obtain rfl : gk = 0 := by omega
  have hkn : n = k := by omega
  subst hkn
  have hN : Own w0 wr [row (B7) 35 ((args loc blk n).toArray), row (nd6) 228 #[.iface 209 (.pointer (some ⟨nd2, 0, none⟩)), .int .i32 loc, .string name, .int .i32 loc, .int .u8 0, .bool false, .bool false, .bool false], row (B3_1) 35 #[.iface 225 (.pointer (some ⟨nd6, 0, none⟩)), .int .i32 loc], row (B3) 35 #[.iface 209 (.pointer (some ⟨nd2, 0, none⟩)), .int .i32 loc], row (nd2) 211 #[.int .u32 5, .int .u32 im, .bool false, .bool false, .bool false]] (argsX X blk n) := hO.conv (by unfold roomA; rw [full_nil])
  clear hO
  have hO := hN
  clear hN
  obtain ⟨ix9, hix9, hax9, hjx9⟩ := hO.ix
  have ix9_0 : ix9 B7 = 0 := hjx9 0 _ _ rfl
  have ix9_1 : ix9 nd6 = 1 := hjx9 1 _ _ rfl
  have ix9_2 : ix9 B3_1 = 2 := hjx9 2 _ _ rfl
  have ix9_3 : ix9 B3 = 3 := hjx9 3 _ _ rfl
  have ix9_4 : ix9 nd2 = 4 := hjx9 4 _ _ rfl
  clear hjx9
  have pl9_0 : Base.plainAt wr (B7) = true := hO.plain 0 rfl
  obtain ⟨c9_1_0, c9_1_1, c9_1_2, c9_1_3, c9_1_4, c9_1_5, c9_1_6, c9_1_7, lt9_1, y9_1, -⟩ := hO.k8 1 rfl
  obtain ⟨c9_2_0, c9_2_1, lt9_2, y9_2, pl9_2⟩ := hO.k2 2 rfl
  obtain ⟨c9_3_0, c9_3_1, lt9_3, y9_3, pl9_3⟩ := hO.k2 3 rfl
  obtain ⟨c9_4_0, c9_4_1, c9_4_2, c9_4_3, c9_4_4, lt9_4, y9_4, -⟩ := hO.k5 4 rfl
  have HO := Lib.hid hO
  clear hO
  go_wp2_with (first | (with_reducible refine Own.stay (fn := Tryd.f28) ?_) | fail)
  try with_reducible refine Own.Stay.mk ?_
  have hO := HO.out
  clear HO hix9 hax9 ix9_0 ix9_1 ix9_2 ix9_3 ix9_4 ix9 pl9_0 c9_1_0 c9_1_1 c9_1_2 c9_1_3 c9_1_4 c9_1_5 c9_1_6 c9_1_7 lt9_1 y9_1 c9_2_0 c9_2_1 lt9_2 y9_2 pl9_2 c9_3_0 c9_3_1 lt9_3 y9_3 pl9_3 c9_4_0 c9_4_1 c9_4_2 c9_4_3 c9_4_4 lt9_4 y9_4
  have hL := hO.apart
  have hX := hO.apartX
  have HL := Lib.hid hL
  have HX := Lib.hid hX
  clear hL hX
  have hP9 := hO.pick [] (by decide)
  have T9 := callE 225 nd6 loc B7 n n _ _ _ hP9 
  refine Calls.mono T9 ?_
  clear hP9 T9
  rintro e u13 ⟨nd14, rfl, hQ⟩
  have hN : Own w0 u13 [row (nd14) 71 #[.iface 225 (.pointer (some ⟨nd6, 0, none⟩)), .int .i32 loc, .slice (some ⟨B7, 0, none⟩) n n, .int .i32 0, .int .u8 0, .int .u8 0, .bool false, .bool false], row (B7) 35 ((args loc blk n).toArray), row (nd6) 228 #[.iface 209 (.pointer (some ⟨nd2, 0, none⟩)), .int .i32 loc, .string name, .int .i32 loc, .int .u8 0, .bool false, .bool false, .bool false], row (B3_1) 35 #[.iface 225 (.pointer (some ⟨nd6, 0, none⟩)), .int .i32 loc], row (B3) 35 #[.iface 209 (.pointer (some ⟨nd2, 0, none⟩)), .int .i32 loc], row (nd2) 211 #[.int .u32 5, .int .u32 im, .bool false, .bool false, .bool false]] (argsX X blk n) := hQ.back HL.out HX.out [0, 1, 2, 3, 4] (by decide) (by decide)
  clear hQ HL HX hO
  have hO := hN
  clear hN
  obtain ⟨ix9, hix9, hax9, hjx9⟩ := hO.ix
  have ix9_0 : ix9 nd14 = 0 := hjx9 0 _ _ rfl
  have ix9_1 : ix9 B7 = 1 := hjx9 1 _ _ rfl
  have ix9_2 : ix9 nd6 = 2 := hjx9 2 _ _ rfl
  have ix9_3 : ix9 B3_1 = 3 := hjx9 3 _ _ rfl
  have ix9_4 : ix9 B3 = 4 := hjx9 4 _ _ rfl
  have ix9_5 : ix9 nd2 = 5 := hjx9 5 _ _ rfl
  clear hjx9
  obtain ⟨c9_0_0, c9_0_1, c9_0_2, c9_0_3, c9_0_4, c9_0_5, c9_0_6, c9_0_7, lt9_0, y9_0, -⟩ := hO.k8 0 rfl
  have pl9_1 : Base.plainAt u13 (B7) = true := hO.plain 1 rfl
  obtain ⟨c9_2_0, c9_2_1, c9_2_2, c9_2_3, c9_2_4, c9_2_5, c9_2_6, c9_2_7, lt9_2, y9_2, -⟩ := hO.k8 2 rfl
  obtain ⟨c9_3_0, c9_3_1, lt9_3, y9_3, pl9_3⟩ := hO.k2 3 rfl
  obtain ⟨c9_4_0, c9_4_1, lt9_4, y9_4, pl9_4⟩ := hO.k2 4 rfl
  obtain ⟨c9_5_0, c9_5_1, c9_5_2, c9_5_3, c9_5_4, lt9_5, y9_5, -⟩ := hO.k5 5 rfl
  have HO := Lib.hid hO
  clear hO
  go_wp2_with (first | (with_reducible refine Own.stay (fn := Tryd.f28) ?_) | fail)
  try with_reducible refine Own.Stay.mk ?_
  have hO := HO.out
  clear HO hix9 hax9 ix9_0 ix9_1 ix9_2 ix9_3 ix9_4 ix9_5 ix9 c9_0_0 c9_0_1 c9_0_2 c9_0_3 c9_0_4 c9_0_5 c9_0_6 c9_0_7 lt9_0 y9_0 pl9_1 c9_2_0 c9_2_1 c9_2_2 c9_2_3 c9_2_4 c9_2_5 c9_2_6 c9_2_7 lt9_2 y9_2 c9_3_0 c9_3_1 lt9_3 y9_3 pl9_3 c9_4_0 c9_4_1 lt9_4 y9_4 pl9_4 c9_5_0 c9_5_1 c9_5_2 c9_5_3 c9_5_4 lt9_5 y9_5
  refine bodyPost_ret (v := .pointer (some ⟨nd14, 0, none⟩)) ?_ rfl ⟨nd14, nd6, B7, nd2, blk, rfl, hO.sub [0, 2, 1, 5] (by decide)⟩
  simp [results, Tryd.results28, go_sem]
def buildCallX3Post (kind : Int) (name : ByteArray) (n : Nat) (loc im : Int) (w0 : World) (X : Nat → Obj → Prop) (e : Ending) (w' : World) : Prop :=
  ∃ ec : Nat, ∃ ab : Nat, ∃ ib : Nat, ∃ blk : Nat → Nat, e = .returned (.pointer (some ⟨ec, 0, none⟩)) ∧ Own w0 w' [row (ec) 71 #[.iface 209 (.pointer (some ⟨ib, 0, none⟩)), .int .i32 loc, .slice (some ⟨ab, 0, none⟩) n n, .int .i32 0, .int .u8 0, .int .u8 0, .bool false, .bool false], row (ab) 35 ((args loc blk n).toArray), row (ib) 211 #[.int .u32 5, .int .u32 im, .bool false, .bool false, .bool false]] (argsX X blk n)
set_option maxRecDepth 100000 in
set_option maxHeartbeats 1000000 in
theorem buildCallX3 (kind : Int) (name : ByteArray) (n : Nat) (loc im : Int) (w0 w : World) (X : Nat → Obj → Prop) (hO : Own w0 w [] X) (hkd : kind.tmod 4 = 3) (hn : n ≤ 4096) :
    Calls Tryd.prog 28 #[.int .u8 kind, .string name, .int .i64 (n : Int), .int .i32 loc, .int .u32 im] w (buildCallX3Post kind name n loc im w0 X) := by
  go_enter Tryd.func28, Tryd.ntmps28
  have hnn : (n : Int) ≤ 4096 := by omega
  have hmk := makeExprs n hn
  go_wp2_with (first | (with_reducible refine Own.stay (fn := Tryd.f28) ?_) | fail)
  try with_reducible refine Own.Stay.mk ?_
  have hL := hO.apart
  have hX := hO.apartX
  have HL := Lib.hid hL
  have HX := Lib.hid hX
  clear hL hX
  have hP9 := hO.pick [] (by decide)
  have T9 := idE loc 5 im _ _ _ hP9 
  refine Calls.mono T9 ?_
  clear hP9 T9
  rintro e u1 ⟨nd2, rfl, hQ⟩
  have hN : Own w0 u1 [row (nd2) 211 #[.int .u32 5, .int .u32 im, .bool false, .bool false, .bool false]] X := hQ.back HL.out HX.out [] (by decide) (by decide)
  clear hQ HL HX hO
  have hO := hN
  clear hN
  obtain ⟨ix9, hix9, hax9, hjx9⟩ := hO.ix
  have ix9_0 : ix9 nd2 = 0 := hjx9 0 _ _ rfl
  clear hjx9
  obtain ⟨c9_0_0, c9_0_1, c9_0_2, c9_0_3, c9_0_4, lt9_0, y9_0, -⟩ := hO.k5 0 rfl
  have HO := Lib.hid hO
  clear hO
  go_wp2_with (first | (with_reducible refine Own.stay (fn := Tryd.f28) ?_) | fail)
  try with_reducible refine Own.Stay.mk ?_
  have hO := HO.out
  clear HO hix9 hax9 ix9_0 ix9 c9_0_0 c9_0_1 c9_0_2 c9_0_3 c9_0_4 lt9_0 y9_0
  generalize hW : World.alloc _ _ = W4
  have hN : Own w0 W4 [row (u1.heap.size + 1 + 1) 35 (roomA 0 (fun x => 0) 0 n), row (u1.heap.size + 1) 35 #[.iface 209 (.pointer (some ⟨nd2, 0, none⟩)), .int .i32 loc], row (u1.heap.size) 35 #[.iface 209 (.pointer (some ⟨nd2, 0, none⟩)), .int .i32 loc], row (nd2) 211 #[.int .u32 5, .int .u32 im, .bool false, .bool false, .bool false]] X := by
    rw [← hW]
    exact (((hO).alloc' _ (u1.heap.size) (by simp)).alloc' _ (u1.heap.size + 1) (by simp)).alloc' _ (u1.heap.size + 1 + 1) (by simp)
  clear hW hO
  generalize u1.heap.size + 1 + 1 = B3_2 at hN ⊢
  generalize u1.heap.size + 1 = B3_1 at hN ⊢
  generalize u1.heap.size = B3 at hN ⊢
  have hO := hN
  clear hN
  go_loopg [15] n (fun gf s15 wx => ∃ (k : Nat) (blk : Nat → Nat), s15 = .int .i64 (k : Int) ∧ k + gf = n ∧ Own w0 wx [row (B3_2) 35 (roomA loc blk k gf), row (B3_1) 35 #[.iface 209 (.pointer (some ⟨nd2, 0, none⟩)), .int .i32 loc], row (B3) 35 #[.iface 209 (.pointer (some ⟨nd2, 0, none⟩)), .int .i32 loc], row (nd2) 211 #[.int .u32 5, .int .u32 im, .bool false, .bool false, .bool false]] (argsX X blk k))
  case atStart => exact ⟨0, fun _ => 0, rfl, by omega, hO.weaken (argsX_zero X _)⟩
  obtain ⟨k, blk, rfl, hk, hO⟩ := hrel
  by_cases hlt : k < n
  · skip
    obtain ⟨gq, rfl⟩ : ∃ gq, gk = gq + 1 := ⟨gk - 1, by omega⟩
    have hlt9 : (k : Int) < n := by omega
    have hk9 : k < n := hlt
    obtain ⟨ix9, hix9, hax9, hjx9⟩ := hO.ix
    have ix9_0 : ix9 B3_2 = 0 := hjx9 0 _ _ rfl
    have ix9_1 : ix9 B3_1 = 1 := hjx9 1 _ _ rfl
    have ix9_2 : ix9 B3 = 2 := hjx9 2 _ _ rfl
    have ix9_3 : ix9 nd2 = 3 := hjx9 3 _ _ rfl
    clear hjx9
    have pl9_0 : Base.plainAt wr (B3_2) = true := hO.plain 0 rfl
    have c9_0_k_2 : wr.cell? ⟨B3_2, k * 2, none⟩ = some (.nilIface) := hO.cell 0 rfl (k * 2) ((roomA_at0 loc blk k gq))
    have c9_0_k_2_1 : wr.cell? ⟨B3_2, k * 2 + 1, none⟩ = some (.int .i32 0) := hO.cell 0 rfl (k * 2 + 1) ((roomA_at1 loc blk k gq))
    have lt9_0 : B3_2 < wr.heap.size := hO.lt 0 rfl
    have y9_0 : ∀ o, wr.frozen? ⟨B3_2, o, none⟩ = false := hO.free 0 rfl
    obtain ⟨c9_1_0, c9_1_1, lt9_1, y9_1, pl9_1⟩ := hO.k2 1 rfl
    obtain ⟨c9_2_0, c9_2_1, lt9_2, y9_2, pl9_2⟩ := hO.k2 2 rfl
    obtain ⟨c9_3_0, c9_3_1, c9_3_2, c9_3_3, c9_3_4, lt9_3, y9_3, -⟩ := hO.k5 3 rfl
    have HO := Lib.hid hO
    clear hO
    go_wp2_with (first | (with_reducible refine Own.stay (fn := Tryd.f28) ?_) | fail)
    try with_reducible refine Own.Stay.mk ?_
    have hO := HO.out
    clear HO hix9 hax9 ix9_0 ix9_1 ix9_2 ix9_3 ix9 pl9_0 c9_0_k_2 c9_0_k_2_1 lt9_0 y9_0 c9_1_0 c9_1_1 lt9_1 y9_1 pl9_1 c9_2_0 c9_2_1 lt9_2 y9_2 pl9_2 c9_3_0 c9_3_1 c9_3_2 c9_3_3 c9_3_4 lt9_3 y9_3
    have hL := hO.apart
    have hX := hO.apartX
    have HL := Lib.hid hL
    have HX := Lib.hid hX
    clear hL hX
    have hP9 := hO.pick [] (by decide)
    have T9 := idE loc 6 (k : Int) _ _ _ hP9 
    refine Calls.mono T9 ?_
    clear hP9 T9
    rintro e u5 ⟨nd6, rfl, hQ⟩
    have hN : Own w0 u5 [row (nd6) 211 #[.int .u32 6, .int .u32 (k : Int), .bool false, .bool false, .bool false], row (B3_2) 35 (roomA loc blk k (gq + 1)), row (B3_1) 35 #[.iface 209 (.pointer (some ⟨nd2, 0, none⟩)), .int .i32 loc], row (B3) 35 #[.iface 209 (.pointer (some ⟨nd2, 0, none⟩)), .int .i32 loc], row (nd2) 211 #[.int .u32 5, .int .u32 im, .bool false, .bool false, .bool false]] (argsX X blk k) := hQ.back HL.out HX.out [0, 1, 2, 3] (by decide) (by decide)
    clear hQ HL HX hO
    have hO := hN
    clear hN
    obtain ⟨ix9, hix9, hax9, hjx9⟩ := hO.ix
    have ix9_0 : ix9 nd6 = 0 := hjx9 0 _ _ rfl
    have ix9_1 : ix9 B3_2 = 1 := hjx9 1 _ _ rfl
    have ix9_2 : ix9 B3_1 = 2 := hjx9 2 _ _ rfl
    have ix9_3 : ix9 B3 = 3 := hjx9 3 _ _ rfl
    have ix9_4 : ix9 nd2 = 4 := hjx9 4 _ _ rfl
    clear hjx9
    obtain ⟨c9_0_0, c9_0_1, c9_0_2, c9_0_3, c9_0_4, lt9_0, y9_0, pl9_0⟩ := hO.k5 0 rfl
    have pl9_1 : Base.plainAt u5 (B3_2) = true := hO.plain 1 rfl
    have c9_1_k_2 : u5.cell? ⟨B3_2, k * 2, none⟩ = some (.nilIface) := hO.cell 1 rfl (k * 2) ((roomA_at0 loc blk k gq))
    have c9_1_k_2_1 : u5.cell? ⟨B3_2, k * 2 + 1, none⟩ = some (.int .i32 0) := hO.cell 1 rfl (k * 2 + 1) ((roomA_at1 loc blk k gq))
    have lt9_1 : B3_2 < u5.heap.size := hO.lt 1 rfl
    have y9_1 : ∀ o, u5.frozen? ⟨B3_2, o, none⟩ = false := hO.free 1 rfl
    obtain ⟨c9_2_0, c9_2_1, lt9_2, y9_2, pl9_2⟩ := hO.k2 2 rfl
    obtain ⟨c9_3_0, c9_3_1, lt9_3, y9_3, pl9_3⟩ := hO.k2 3 rfl
    obtain ⟨c9_4_0, c9_4_1, c9_4_2, c9_4_3, c9_4_4, lt9_4, y9_4, pl9_4⟩ := hO.k5 4 rfl
    have HO := Lib.hid hO
    clear hO
    go_wp2_with (first | (with_reducible refine Own.stay (fn := Tryd.f28) ?_) | fail)
    try with_reducible refine Own.Stay.mk ?_
    have hO := HO.out
    clear HO hix9 hax9 ix9_0 ix9_1 ix9_2 ix9_3 ix9_4 ix9 c9_0_0 c9_0_1 c9_0_2 c9_0_3 c9_0_4 lt9_0 y9_0 pl9_0 pl9_1 c9_1_k_2 c9_1_k_2_1 lt9_1 y9_1 c9_2_0 c9_2_1 lt9_2 y9_2 pl9_2 c9_3_0 c9_3_1 lt9_3 y9_3 pl9_3 c9_4_0 c9_4_1 c9_4_2 c9_4_3 c9_4_4 lt9_4 y9_4 pl9_4
    generalize hW : World.setCell _ _ _ = W8
    have hN : Own w0 W8 [row (nd6) 211 #[.int .u32 6, .int .u32 (k : Int), .bool false, .bool false, .bool false], row (B3_2) 35 (((roomA loc blk k (gq + 1)).setIfInBounds (k * 2) (.iface 209 (.pointer (some ⟨nd6, 0, none⟩)))).setIfInBounds (k * 2 + 1) (.int .i32 loc)), row (B3_1) 35 #[.iface 209 (.pointer (some ⟨nd2, 0, none⟩)), .int .i32 loc], row (B3) 35 #[.iface 209 (.pointer (some ⟨nd2, 0, none⟩)), .int .i32 loc], row (nd2) 211 #[.int .u32 5, .int .u32 im, .bool false, .bool false, .bool false]] (argsX X blk k) := by
      rw [← hW]
      exact ((hO).set 1 rfl (k * 2) _).set 1 rfl (k * 2 + 1) _
    clear hW hO
    have hO := hN
    clear hN
    have hN : Own w0 W8 [row (nd6) 211 #[.int .u32 6, .int .u32 (k : Int), .bool false, .bool false, .bool false], row (B3_2) 35 (((roomA loc blk k (gq + 1)).setIfInBounds (k * 2) (.iface 209 (.pointer (some ⟨nd6, 0, none⟩)))).setIfInBounds (k * 2 + 1) (.int .i32 loc)), row (B3_1) 35 #[.iface 209 (.pointer (some ⟨nd2, 0, none⟩)), .int .i32 loc], row (B3) 35 #[.iface 209 (.pointer (some ⟨nd2, 0, none⟩)), .int .i32 loc], row (nd2) 211 #[.int .u32 5, .int .u32 im, .bool false, .bool false, .bool false]] (argsX X blk k) := hO.sub [0, 1, 2, 3, 4] (by decide)
    clear hO
    have hO := hN
    clear hN
    have hN : Own w0 W8 [row (nd6) 211 #[.int .u32 6, .int .u32 (k : Int), .bool false, .bool false, .bool false], row (B3_2) 35 (roomA loc (upd blk k nd6) (k + 1) gq), row (B3_1) 35 #[.iface 209 (.pointer (some ⟨nd2, 0, none⟩)), .int .i32 loc], row (B3) 35 #[.iface 209 (.pointer (some ⟨nd2, 0, none⟩)), .int .i32 loc], row (nd2) 211 #[.int .u32 5, .int .u32 im, .bool false, .bool false, .bool false]] (argsX X blk k) := hO.conv (by rw [roomA_next])
    clear hO
    have hO := hN
    clear hN
    go_roundg gq
    case measure => omega
    case rel => exact ⟨k + 1, upd blk k nd6, by simp, by omega, hO.give (argsX_upd X blk k nd6)⟩
  obtain rfl : gk = 0 := by omega
  have hkn : n = k := by omega
  subst hkn
  have hN : Own w0 wr [row (B3_2) 35 ((args loc blk n).toArray), row (B3_1) 35 #[.iface 209 (.pointer (some ⟨nd2, 0, none⟩)), .int .i32 loc], row (B3) 35 #[.iface 209 (.pointer (some ⟨nd2, 0, none⟩)), .int .i32 loc], row (nd2) 211 #[.int .u32 5, .int .u32 im, .bool false, .bool false, .bool false]] (argsX X blk n) := hO.conv (by unfold roomA; rw [full_nil])
  clear hO
  have hO := hN
  clear hN
  obtain ⟨ix9, hix9, hax9, hjx9⟩ := hO.ix
  have ix9_0 : ix9 B3_2 = 0 := hjx9 0 _ _ rfl
  have ix9_1 : ix9 B3_1 = 1 := hjx9 1 _ _ rfl
  have ix9_2 : ix9 B3 = 2 := hjx9 2 _ _ rfl
  have ix9_3 : ix9 nd2 = 3 := hjx9 3 _ _ rfl
  clear hjx9
  have pl9_0 : Base.plainAt wr (B3_2) = true := hO.plain 0 rfl
  obtain ⟨c9_1_0, c9_1_1, lt9_1, y9_1, pl9_1⟩ := hO.k2 1 rfl
  obtain ⟨c9_2_0, c9_2_1, lt9_2, y9_2, pl9_2⟩ := hO.k2 2 rfl
  obtain ⟨c9_3_0, c9_3_1, c9_3_2, c9_3_3, c9_3_4, lt9_3, y9_3, -⟩ := hO.k5 3 rfl
  have HO := Lib.hid hO
  clear hO
  go_wp2_with (first | (with_reducible refine Own.stay (fn := Tryd.f28) ?_) | fail)
  try with_reducible refine Own.Stay.mk ?_
  have hO := HO.out
  clear HO hix9 hax9 ix9_0 ix9_1 ix9_2 ix9_3 ix9 pl9_0 c9_1_0 c9_1_1 lt9_1 y9_1 pl9_1 c9_2_0 c9_2_1 lt9_2 y9_2 pl9_2 c9_3_0 c9_3_1 c9_3_2 c9_3_3 c9_3_4 lt9_3 y9_3
  have hL := hO.apart
  have hX := hO.apartX
  have HL := Lib.hid hL
  have HX := Lib.hid hX
  clear hL hX
  have hP9 := hO.pick [] (by decide)
  have T9 := callE 209 nd2 loc B3_2 n n _ _ _ hP9 
  refine Calls.mono T9 ?_
  clear hP9 T9
  rintro e u9 ⟨nd10, rfl, hQ⟩
  have hN : Own w0 u9 [row (nd10) 71 #[.iface 209 (.pointer (some ⟨nd2, 0, none⟩)), .int .i32 loc, .slice (some ⟨B3_2, 0, none⟩) n n, .int .i32 0, .int .u8 0, .int .u8 0, .bool false, .bool false], row (B3_2) 35 ((args loc blk n).toArray), row (B3_1) 35 #[.iface 209 (.pointer (some ⟨nd2, 0, none⟩)), .int .i32 loc], row (B3) 35 #[.iface 209 (.pointer (some ⟨nd2, 0, none⟩)), .int .i32 loc], row (nd2) 211 #[.int .u32 5, .int .u32 im, .bool false, .bool false, .bool false]] (argsX X blk n) := hQ.back HL.out HX.out [0, 1, 2, 3] (by decide) (by decide)
  clear hQ HL HX hO
  have hO := hN
  clear hN
  obtain ⟨ix9, hix9, hax9, hjx9⟩ := hO.ix
  have ix9_0 : ix9 nd10 = 0 := hjx9 0 _ _ rfl
  have ix9_1 : ix9 B3_2 = 1 := hjx9 1 _ _ rfl
  have ix9_2 : ix9 B3_1 = 2 := hjx9 2 _ _ rfl
  have ix9_3 : ix9 B3 = 3 := hjx9 3 _ _ rfl
  have ix9_4 : ix9 nd2 = 4 := hjx9 4 _ _ rfl
  clear hjx9
  obtain ⟨c9_0_0, c9_0_1, c9_0_2, c9_0_3, c9_0_4, c9_0_5, c9_0_6, c9_0_7, lt9_0, y9_0, -⟩ := hO.k8 0 rfl
  have pl9_1 : Base.plainAt u9 (B3_2) = true := hO.plain 1 rfl
  obtain ⟨c9_2_0, c9_2_1, lt9_2, y9_2, pl9_2⟩ := hO.k2 2 rfl
  obtain ⟨c9_3_0, c9_3_1, lt9_3, y9_3, pl9_3⟩ := hO.k2 3 rfl
  obtain ⟨c9_4_0, c9_4_1, c9_4_2, c9_4_3, c9_4_4, lt9_4, y9_4, -⟩ := hO.k5 4 rfl
  have HO := Lib.hid hO
  clear hO
  go_wp2_with (first | (with_reducible refine Own.stay (fn := Tryd.f28) ?_) | fail)
  try with_reducible refine Own.Stay.mk ?_
  have hO := HO.out
  clear HO hix9 hax9 ix9_0 ix9_1 ix9_2 ix9_3 ix9_4 ix9 c9_0_0 c9_0_1 c9_0_2 c9_0_3 c9_0_4 c9_0_5 c9_0_6 c9_0_7 lt9_0 y9_0 pl9_1 c9_2_0 c9_2_1 lt9_2 y9_2 pl9_2 c9_3_0 c9_3_1 lt9_3 y9_3 pl9_3 c9_4_0 c9_4_1 c9_4_2 c9_4_3 c9_4_4 lt9_4 y9_4
  refine bodyPost_ret (v := .pointer (some ⟨nd10, 0, none⟩)) ?_ rfl ⟨nd10, B3_2, nd2, blk, rfl, hO.sub [0, 1, 4] (by decide)⟩
  simp [results, Tryd.results28, go_sem]
end Go.Proofs.YtkhmjppfogppoaaDoor.Use
