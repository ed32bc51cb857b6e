/- Several texts in one. No condition. -/
import Derived.Test.YtikopplofkemlaaDoorEls
namespace Go.Proofs.YtikopplofkemlaaDoor.Use
open Go.ChangeShapes Go.WideShapes Go.ChangeAt Go.RowKit Go.Sort Own
set_option linter.unusedVariables false
theorem set_ne {l : List Value} {i j : Nat} {v x : Value} (h : l[j]? = some x) (hne : i ≠ j) : (l.set i v)[j]? = some x := by
 rw [List.getElem?_set_ne hne]
 exact h
/-- Statements, told by number: their kinds (0 empty, 1 a directive, 2 a function, else a declaration), nodes and places. -/
structure Dt where
 kd : Nat → Nat
 ad : Nat → Nat
 lc : Nat → Int
def stT (k : Nat) : Nat := if k = 0 then 275 else if k = 1 then 278 else if k = 2 then 281 else 42
def stC (D : Dt) (i : Nat) : List Value := [.iface (stT (D.kd i)) (.pointer (some ⟨D.ad i, 0, none⟩)), vI (D.lc i)]
def stL (D : Dt) : List Nat → List Value
 | [] => []
 | i :: l => stC D i ++ stL D l
theorem stL_append (D : Dt) : ∀ l m : List Nat, stL D (l ++ m) = stL D l ++ stL D m
 | [], _ => rfl
 | i :: l, m => by rw [List.cons_append, stL, stL_append D l m, stL, List.append_assoc]
theorem stL_one (D : Dt) (i : Nat) : stL D [i] = stC D i := by simp [stL]
theorem stL_at0 {D : Dt} : ∀ {l : List Nat} {p i : Nat}, l[p]? = some i → (stL D l)[p * 2]? = some (.iface (stT (D.kd i)) (.pointer (some ⟨D.ad i, 0, none⟩)))
 | [], _, _, h => by simp at h
 | x :: l, 0, i, h => by simp at h; subst h; rfl
 | x :: l, p + 1, i, h => by
  have := stL_at0 (D := D) (l := l) (p := p) (i := i) (by simpa using h)
  rw [stL, List.getElem?_append_right (by show 2 ≤ _; omega), show (p + 1) * 2 - (stC D x).length = p * 2 from by show (p + 1) * 2 - 2 = _; omega]
  exact this
theorem stL_at1 {D : Dt} : ∀ {l : List Nat} {p i : Nat}, l[p]? = some i → (stL D l)[p * 2 + 1]? = some (vI (D.lc i))
 | [], _, _, h => by simp at h
 | x :: l, 0, i, h => by simp at h; subst h; rfl
 | x :: l, p + 1, i, h => by
  have := stL_at1 (D := D) (l := l) (p := p) (i := i) (by simpa using h)
  rw [stL, List.getElem?_append_right (by show 2 ≤ _; omega), show (p + 1) * 2 + 1 - (stC D x).length = p * 2 + 1 from by show (p + 1) * 2 + 1 - 2 = _; omega]
  exact this
theorem stL_set {D : Dt} : ∀ {l : List Nat} {p : Nat} (i : Nat), p < l.length → ((stL D l).set (p * 2) (.iface (stT (D.kd i)) (.pointer (some ⟨D.ad i, 0, none⟩)))).set (p * 2 + 1) (vI (D.lc i)) = stL D (l.set p i)
 | [], _, _, h => by simp at h
 | x :: l, 0, i, _ => rfl
 | x :: l, p + 1, i, h => by
  have := stL_set (D := D) (l := l) (p := p) i (by simpa using h)
  rw [stL, List.set_append_right _ _ (by show 2 ≤ _; omega), List.set_append_right _ _ (by show 2 ≤ _; omega), show (p + 1) * 2 - (stC D x).length = p * 2 from by show (p + 1) * 2 - 2 = _; omega, show (p + 1) * 2 + 1 - (stC D x).length = p * 2 + 1 from by show (p + 1) * 2 + 1 - 2 = _; omega, this, List.set_cons_succ, stL]
section
variable {D : Dt} {hst : Bool} {n i p : Nat}
end
theorem makeStms (n : Nat) (hn : n ≤ 1048576) (w : World) : (Instr.makeSlice 40 (v6 (n : Int)) (v6 (n : Int))).run Tryd.prog w = .ok (vS w.heap.size n n) (w.alloc (.cells (full stmZ [] n) 61)) := by
 obtain ⟨i, hi, z1, z2, z3⟩ := info_parts infoStm
 exact run_mk_full w 40 61 i (.agg stmZ) 2 24 Tryd.underlying40 hi z1 z2 z3 rfl .i64 .i64 n n (Nat.le_refl _) (by omega) (by omega)

end Go.Proofs.YtikopplofkemlaaDoor.Use
namespace Go.Proofs.YtikopplofkemlaaDoor.Use
open Go.ChangeShapes Go.WideShapes Go.ChangeAt Go.RowKit Go.Sort Own
set_option linter.unusedVariables false
theorem tab_stL (D : Dt) (n : Nat) : tab (stC D) n = stL D (List.range n) := by
 induction n with
 | zero => rfl
 | succ n ih => rw [tab_succ, ih, List.range_succ, stL_append, stL_one]
def updT (D : Dt) (i a : Nat) : Dt := { D with ad := fun j => if j = i then a else D.ad j }
/-- The declarations' nodes, laid so far. -/
def LcX (X : Nat → Obj → Prop) (D : Dt) (k : Nat) : Nat → Obj → Prop := fun b o => X b o ∨ ∃ i, i < k ∧ D.kd i = 3 ∧ b = D.ad i ∧ o = .cells #[vN, v8 0, bF, bF] 57 (0, 0)
theorem LcX.zero {X : Nat → Obj → Prop} {D : Dt} {b : Nat} {o : Obj} (h : LcX X D 0 b o) : X b o := h.elim id fun ⟨i, hi, _⟩ => absurd hi (Nat.not_lt_zero i)
theorem LcX.skip {X : Nat → Obj → Prop} {D : Dt} {k : Nat} (a : Nat) (hk : D.kd k ≠ 3) : ∀ b o, LcX X (updT D k a) (k + 1) b o → LcX X D k b o := by
 rintro b o (h | ⟨i, hi, hi3, hb, ho⟩)
 ·exact Or.inl h
 ·have hne : i ≠ k := fun e => hk (e ▸ hi3)
  exact Or.inr ⟨i, by omega, hi3, by rw [hb]; exact if_neg hne, ho⟩
theorem LcX.next {X : Nat → Obj → Prop} {D : Dt} {k : Nat} (a : Nat) : ∀ b o, LcX X (updT D k a) (k + 1) b o → LcX X D k b o ∨ (b = a ∧ o = .cells #[vN, v8 0, bF, bF] 57 (0, 0)) := by
 rintro b o (h | ⟨i, hi, hi3, hb, ho⟩)
 ·exact Or.inl (Or.inl h)
 ·by_cases hne : i = k
  ·subst hne
   exact Or.inr ⟨hb.trans (if_pos rfl), ho⟩
  ·exact Or.inl (Or.inr ⟨i, by omega, hi3, by rw [hb]; exact if_neg hne, ho⟩)

end Go.Proofs.YtikopplofkemlaaDoor.Use
namespace Go.Proofs.YtikopplofkemlaaDoor.Use
open Go.ChangeShapes Go.WideShapes Go.ChangeAt Go.RowKit Go.Sort Own
set_option linter.unusedVariables false
def localStmtPost (sl : Nat) (k0 : Int) (w0 : World) (X : Nat → Obj → Prop) (e : Ending) (w' : World) : Prop :=
 e = .returned (.agg #[vF 42 sl, vI k0]) ∧ Own w0 w' [] X
set_option maxRecDepth 100000 in
set_option maxHeartbeats 1000000 in
theorem localStmt (sl : Nat) (k0 : Int) (w0 w : World) (X : Nat → Obj → Prop) (hO : Own w0 w [] X)  :
  Calls Tryd.prog 13 #[vI k0, vP sl] w (localStmtPost sl k0 w0 X) := by
 go_enter Tryd.func13, Tryd.ntmps13
 go_wp2_with (first | (with_reducible refine Own.stay (fn := Tryd.f13) ?_) | fail)
 try with_reducible refine Own.Stay.mk ?_
 generalize hW : World.alloc _ _ = W2
 have hN : Own w0 W2 [row (w.heap.size) 61 #[vF 42 sl, vI k0]] X := by
  rw [← hW]
  exact (hO).alloc' _ (w.heap.size) (by simp)
 clear hW hO
 generalize w.heap.size = B1 at hN ⊢
 have hO := hN
 clear hN
 have z9_0_0 : W2.cell? ⟨B1, 0, none⟩ = some (vF 42 sl) := hO.cell 0 rfl 0 rfl
 have z9_0_1 : W2.cell? ⟨B1, 1, none⟩ = some (vI k0) := hO.cell 0 rfl 1 rfl
 refine bodyPost_ret (v := .agg #[vF 42 sl, vI k0]) ?_ rfl ⟨rfl, hO.sub [] dc⟩
 simp [results, Tryd.results13, go_sem, z9_0_0, z9_0_1]
end Go.Proofs.YtikopplofkemlaaDoor.Use
namespace Go.Proofs.YtikopplofkemlaaDoor.Use
open Go.ChangeShapes Go.WideShapes Go.ChangeAt Go.RowKit Go.Sort Own
set_option linter.unusedVariables false
theorem Base.cell_belowA {w0 w : World} {a : Addr} {v : Value} (hb : Below w0.heap.size w0 w) (h : w0.cell? a = some v) : w.cell? a = some v := by
 rw [← h]
 refine hb.cell (p := a) ?_
 simp only [World.cell?] at h
 cases hx : w0.heap[a.block]? with
 | none => rw [hx] at h; simp at h
 | some x => exact (Array.getElem?_eq_some_iff.1 hx).1

end Go.Proofs.YtikopplofkemlaaDoor.Use
namespace Go.Proofs.YtikopplofkemlaaDoor.Use
open Go.ChangeShapes Go.WideShapes Go.ChangeAt Go.RowKit Go.Sort Own
set_option linter.unusedVariables false
def ctxStackPost (cx : Nat) (l0 ra rj : Int) (aw : Bool) (w0 : World) (X : Nat → Obj → Prop) (e : Ending) (w' : World) : Prop :=
 e = .returned (.agg #[vU ra, vU rj]) ∧ Own w0 w' [row (cx) 33 #[vI l0, vU ra, vU rj, .bool aw]] X
set_option maxRecDepth 100000 in
set_option maxHeartbeats 1000000 in
theorem ctxStack (cx : Nat) (l0 ra rj : Int) (aw : Bool) (w0 w : World) (X : Nat → Obj → Prop) (hO : Own w0 w [row (cx) 33 #[vI l0, vU ra, vU rj, .bool aw]] X)  :
  Calls Tryd.prog 10 #[vP cx] w (ctxStackPost cx l0 ra rj aw w0 X) := by
 go_enter Tryd.func10, Tryd.ntmps10
 obtain ⟨aD, aE, aG, aH, aA, aB, -⟩ := hO.k4 0 rfl
 have HO := Lib.hid hO
 clear hO
 go_wp2_with (first | (with_reducible refine Own.stay (fn := Tryd.f10) ?_) | fail)
 try with_reducible refine Own.Stay.mk ?_
 have hO := HO.out
 clear HO aD aE aG aH aA aB
 generalize hW : World.alloc _ _ = W2
 have hN : Own w0 W2 [row (w.heap.size) 31 #[vU ra, vU rj], row (cx) 33 #[vI l0, vU ra, vU rj, .bool aw]] X := by
  rw [← hW]
  exact (hO).alloc' _ (w.heap.size) (by simp)
 clear hW hO
 generalize w.heap.size = B1 at hN ⊢
 have hO := hN
 clear hN
 have z9_0_0 : W2.cell? ⟨B1, 0, none⟩ = some (vU ra) := hO.cell 0 rfl 0 rfl
 have z9_0_1 : W2.cell? ⟨B1, 1, none⟩ = some (vU rj) := hO.cell 0 rfl 1 rfl
 refine bodyPost_ret (v := .agg #[vU ra, vU rj]) ?_ rfl ⟨rfl, hO.sub [1] dc⟩
 simp [results, Tryd.results10, go_sem, z9_0_0, z9_0_1]
def asLocalPost (nb : Nat) (l0 : Int) (w0 : World) (X : Nat → Obj → Prop) (e : Ending) (w' : World) : Prop :=
 e = .returned (vP nb) ∧ Own w0 w' [] X
set_option maxRecDepth 100000 in
set_option maxHeartbeats 1000000 in
theorem asLocal (nb : Nat) (l0 : Int) (w0 w : World) (X : Nat → Obj → Prop) (hO : Own w0 w [] X)  :
  Calls Tryd.prog 15 #[.agg #[vF 42 nb, vI l0]] w (asLocalPost nb l0 w0 X) := by
 go_enter Tryd.func15, Tryd.ntmps15
 go_wp2_with (first | (with_reducible refine Own.stay (fn := Tryd.f15) ?_) | fail)
 try with_reducible refine Own.Stay.mk ?_
 generalize hW : World.alloc _ _ = W2
 have hN : Own w0 W2 [row (w.heap.size) 61 #[vF 42 nb, vI l0]] X := by
  rw [← hW]
  exact (hO).alloc' _ (w.heap.size) (by simp)
 clear hW hO
 generalize w.heap.size = B1 at hN ⊢
 have hO := hN
 clear hN
 refine bodyPost_ret (v := vP nb) ?_ rfl ⟨rfl, hO.sub [] dc⟩
 simp [results, Tryd.results15, go_sem]
def asTryPost (nb : Nat) (l0 : Int) (w0 : World) (X : Nat → Obj → Prop) (e : Ending) (w' : World) : Prop :=
 e = .returned (vP nb) ∧ Own w0 w' [] X
set_option maxRecDepth 100000 in
set_option maxHeartbeats 1000000 in
theorem asTry (nb : Nat) (l0 : Int) (w0 w : World) (X : Nat → Obj → Prop) (hO : Own w0 w [] X)  :
  Calls Tryd.prog 17 #[.agg #[vF 67 nb, vI l0]] w (asTryPost nb l0 w0 X) := by
 go_enter Tryd.func17, Tryd.ntmps17
 go_wp2_with (first | (with_reducible refine Own.stay (fn := Tryd.f17) ?_) | fail)
 try with_reducible refine Own.Stay.mk ?_
 generalize hW : World.alloc _ _ = W2
 have hN : Own w0 W2 [row (w.heap.size) 61 #[vF 67 nb, vI l0]] X := by
  rw [← hW]
  exact (hO).alloc' _ (w.heap.size) (by simp)
 clear hW hO
 generalize w.heap.size = B1 at hN ⊢
 have hO := hN
 clear hN
 refine bodyPost_ret (v := vP nb) ?_ rfl ⟨rfl, hO.sub [] dc⟩
 simp [results, Tryd.results17, go_sem]
def bindRefPost (nb : Nat) (l0 ra rj : Int) (w0 : World) (X : Nat → Obj → Prop) (e : Ending) (w' : World) : Prop :=
 e = .returned (.tuple #[.agg #[vU ra, vU rj], .bool true]) ∧ Own w0 w' [row (nb) 136 #[vU ra, vU rj]] X
set_option maxRecDepth 100000 in
set_option maxHeartbeats 1000000 in
theorem bindRef (nb : Nat) (l0 ra rj : Int) (w0 w : World) (X : Nat → Obj → Prop) (hO : Own w0 w [row (nb) 136 #[vU ra, vU rj]] X)  :
  Calls Tryd.prog 16 #[.agg #[vF 134 nb, vI l0]] w (bindRefPost nb l0 ra rj w0 X) := by
 go_enter Tryd.func16, Tryd.ntmps16
 obtain ⟨aD, aE, aA, aB, -⟩ := hO.k2 0 rfl
 have HO := Lib.hid hO
 clear hO
 go_wp2_with (first | (with_reducible refine Own.stay (fn := Tryd.f16) ?_) | fail)
 try with_reducible refine Own.Stay.mk ?_
 have hO := HO.out
 clear HO aD aE aA aB
 generalize hW : World.alloc _ _ = W2
 have hN : Own w0 W2 [row (w.heap.size + 1) 31 #[vU ra, vU rj], row (w.heap.size) 47 #[vF 134 nb, vI l0], row (nb) 136 #[vU ra, vU rj]] X := by
  rw [← hW]
  exact ((hO).alloc' _ (w.heap.size) (by simp)).alloc' _ (w.heap.size + 1) (by simp)
 clear hW hO
 generalize w.heap.size + 1 = B1_1 at hN ⊢
 generalize w.heap.size = B1 at hN ⊢
 have hO := hN
 clear hN
 have z9_0_0 : W2.cell? ⟨B1_1, 0, none⟩ = some (vU ra) := hO.cell 0 rfl 0 rfl
 have z9_0_1 : W2.cell? ⟨B1_1, 1, none⟩ = some (vU rj) := hO.cell 0 rfl 1 rfl
 refine bodyPost_ret (v := .tuple #[.agg #[vU ra, vU rj], .bool true]) ?_ rfl ⟨rfl, hO.sub [2] dc⟩
 simp [results, Tryd.results16, go_sem, z9_0_0, z9_0_1]
end Go.Proofs.YtikopplofkemlaaDoor.Use
namespace Go.Proofs.YtikopplofkemlaaDoor.Use
open Go.ChangeShapes Go.WideShapes Go.ChangeAt Go.RowKit Go.Sort Own
set_option linter.unusedVariables false
def awaitPPost (pb : Nat) (PC : Array Value) (ea : Nat) (loc : Int) (w0 : World) (X : Nat → Obj → Prop) (e : Ending) (w' : World) : Prop :=
 e = .returned (.agg #[vF 305 ea, vI loc]) ∧ Own w0 w' [row (pb) 252 PC] X
set_option maxRecDepth 100000 in
set_option maxHeartbeats 1000000 in
theorem awaitP (pb : Nat) (PC : Array Value) (ea : Nat) (loc : Int) (w0 w : World) (X : Nat → Obj → Prop) (hO : Own w0 w [row (pb) 252 PC] X) (hk333 : PC[333]? = some (bF)) (hk23 : PC[23]? = some (.int .u64 0)) :
  Calls Tryd.prog 50 #[vP pb, .agg #[vI loc], vP ea] w (awaitPPost pb PC ea loc w0 X) := by
 go_enter Tryd.func50, Tryd.ntmps50
 obtain ⟨ix9, hix9, hax9, hjx9⟩ := hO.ix
 have aC := hjx9 0 _ _ rfl
 clear hjx9
 have aI := hO.cell 0 rfl 23 hk23
 have aJ := hO.cell 0 rfl 333 hk333
 have aA := hO.lt 0 rfl
 have aB := hO.free 0 rfl
 have HO := Lib.hid hO
 clear hO
 go_wp2_with (first | (with_reducible refine Own.stay (fn := Tryd.f50) ?_) | (first | (go_at_call 57; go_in)))
 try with_reducible refine Own.Stay.mk ?_
 have hO := HO.out
 clear HO hix9 hax9 aC ix9 aI aJ aA aB
 generalize hW : World.alloc _ _ = W2
 have hN : Own w0 W2 [row (w.heap.size + 1) 52 #[vF 305 ea, vI loc], row (w.heap.size) 28 #[vI loc], row (pb) 252 PC] X := by
  rw [← hW]
  exact ((hO).alloc' _ (w.heap.size) (by simp)).alloc' _ (w.heap.size + 1) (by simp)
 clear hW hO
 generalize w.heap.size + 1 = B1_1 at hN ⊢
 generalize w.heap.size = B1 at hN ⊢
 have hO := hN
 clear hN
 have z9_0_0 : W2.cell? ⟨B1_1, 0, none⟩ = some (vF 305 ea) := hO.cell 0 rfl 0 rfl
 have z9_0_1 : W2.cell? ⟨B1_1, 1, none⟩ = some (vI loc) := hO.cell 0 rfl 1 rfl
 refine bodyPost_ret (v := .agg #[vF 305 ea, vI loc]) ?_ rfl ⟨rfl, hO.sub [2] dc⟩
 simp [results, Tryd.results50, go_sem, z9_0_0, z9_0_1]
end Go.Proofs.YtikopplofkemlaaDoor.Use
