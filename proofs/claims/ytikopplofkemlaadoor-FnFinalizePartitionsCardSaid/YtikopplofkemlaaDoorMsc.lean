/- Several texts in one. No condition. -/
import Derived.Test.YtikopplofkemlaaDoorEls
import Derived.Test.YtikopplofkemlaaDoorUmp
import Derived.Test.YtikopplofkemlaaDoorLive
import Derived.Test.YtikopplofkemlaaDoorLoop
import Derived.Test.YtikopplofkemlaaDoorUms
import Derived.Test.YtikopplofkemlaaDoorAppL
import Derived.Test.YtikopplofkemlaaDoorApp
import Derived.Test.YtikopplofkemlaaDoorOwnK
import Derived.Test.YtikopplofkemlaaDoorOwn
import Derived.Test.YtikopplofkemlaaDoorDeepCells
import Derived.Test.YtikopplofkemlaaDoorRows
import Derived.Test.YtikopplofkemlaaDoorUse
namespace Go.Proofs.YtikopplofkemlaaDoor.Use
open Go.ChangeShapes Go.WideShapes Go.ChangeAt Go.RowKit Go.Sort Own
set_option linter.unusedVariables false
theorem set_ne {l : List Value} {i j : Nat} {v x : Value} (h : l[j]? = some x) (hne : i ≠ j) : (l.set i v)[j]? = some x := by
  rw [List.getElem?_set_ne hne]
  exact h
/-- Statements, told by number: their kinds (0 empty, 1 a directive, 2 a function, else a declaration), nodes and places. -/
structure Dt where
  kd : Nat → Nat
  ad : Nat → Nat
  lc : Nat → Int
def stT (k : Nat) : Nat := if k = 0 then 275 else if k = 1 then 278 else if k = 2 then 281 else 42
def stC (D : Dt) (i : Nat) : List Value := [.iface (stT (D.kd i)) (.pointer (some ⟨D.ad i, 0, none⟩)), .int .i32 (D.lc i)]
def stL (D : Dt) : List Nat → List Value
  | [] => []
  | i :: l => stC D i ++ stL D l
theorem stL_append (D : Dt) : ∀ l m : List Nat, stL D (l ++ m) = stL D l ++ stL D m
  | [], _ => rfl
  | i :: l, m => by rw [List.cons_append, stL, stL_append D l m, stL, List.append_assoc]
theorem stL_one (D : Dt) (i : Nat) : stL D [i] = stC D i := by simp [stL]
theorem stL_length (D : Dt) : ∀ l : List Nat, (stL D l).length = l.length * 2
  | [] => rfl
  | i :: l => by rw [stL, List.length_append, stL_length D l, List.length_cons]; show 2 + _ = _; omega
theorem stL_at0 {D : Dt} : ∀ {l : List Nat} {p i : Nat}, l[p]? = some i → (stL D l)[p * 2]? = some (.iface (stT (D.kd i)) (.pointer (some ⟨D.ad i, 0, none⟩)))
  | [], _, _, h => by simp at h
  | x :: l, 0, i, h => by simp at h; subst h; rfl
  | x :: l, p + 1, i, h => by
    have := stL_at0 (D := D) (l := l) (p := p) (i := i) (by simpa using h)
    rw [stL, List.getElem?_append_right (by show 2 ≤ _; omega), show (p + 1) * 2 - (stC D x).length = p * 2 from by show (p + 1) * 2 - 2 = _; omega]
    exact this
theorem stL_at1 {D : Dt} : ∀ {l : List Nat} {p i : Nat}, l[p]? = some i → (stL D l)[p * 2 + 1]? = some (.int .i32 (D.lc i))
  | [], _, _, h => by simp at h
  | x :: l, 0, i, h => by simp at h; subst h; rfl
  | x :: l, p + 1, i, h => by
    have := stL_at1 (D := D) (l := l) (p := p) (i := i) (by simpa using h)
    rw [stL, List.getElem?_append_right (by show 2 ≤ _; omega), show (p + 1) * 2 + 1 - (stC D x).length = p * 2 + 1 from by show (p + 1) * 2 + 1 - 2 = _; omega]
    exact this
theorem stL_set {D : Dt} : ∀ {l : List Nat} {p : Nat} (i : Nat), p < l.length → ((stL D l).set (p * 2) (.iface (stT (D.kd i)) (.pointer (some ⟨D.ad i, 0, none⟩)))).set (p * 2 + 1) (.int .i32 (D.lc i)) = stL D (l.set p i)
  | [], _, _, h => by simp at h
  | x :: l, 0, i, _ => rfl
  | x :: l, p + 1, i, h => by
    have := stL_set (D := D) (l := l) (p := p) i (by simpa using h)
    rw [stL, List.set_append_right _ _ (by show 2 ≤ _; omega), List.set_append_right _ _ (by show 2 ≤ _; omega), show (p + 1) * 2 - (stC D x).length = p * 2 from by show (p + 1) * 2 - 2 = _; omega, show (p + 1) * 2 + 1 - (stC D x).length = p * 2 + 1 from by show (p + 1) * 2 + 1 - 2 = _; omega, this, List.set_cons_succ, stL]
def outB (hst : Bool) (k : Nat) : Bool := k == 1 || (k == 2 && hst)
def outs (D : Dt) (hst : Bool) (i : Nat) : List Nat := (List.range i).filter (fun j => outB hst (D.kd j))
def ins (D : Dt) (hst : Bool) (i : Nat) : List Nat := (List.range i).filter (fun j => !outB hst (D.kd j))
def arrI (D : Dt) (hst : Bool) (n i : Nat) : List Nat := ins D hst i ++ List.range' (ins D hst i).length (n - (ins D hst i).length)
section
variable {D : Dt} {hst : Bool} {n i p : Nat}
theorem outs_yes (h : outB hst (D.kd i) = true) : outs D hst (i + 1) = outs D hst i ++ [i] := by simp [outs, List.range_succ, h]
theorem outs_no (h : outB hst (D.kd i) = false) : outs D hst (i + 1) = outs D hst i := by simp [outs, List.range_succ, h]
theorem ins_yes (h : outB hst (D.kd i) = true) : ins D hst (i + 1) = ins D hst i := by simp [ins, List.range_succ, h]
theorem ins_no (h : outB hst (D.kd i) = false) : ins D hst (i + 1) = ins D hst i ++ [i] := by simp [ins, List.range_succ, h]
theorem ins_len : (ins D hst i).length ≤ i := Nat.le_trans (List.length_filter_le _ _) (by simp)
theorem outs_len : (outs D hst i).length ≤ i := Nat.le_trans (List.length_filter_le _ _) (by simp)
theorem arrI_zero : arrI D hst n 0 = List.range n := by simp [arrI, ins, List.range_eq_range']
theorem arrI_len (h : i ≤ n) : (arrI D hst n i).length = n := by
  have := ins_len (D := D) (hst := hst) (i := i)
  simp [arrI]
  omega
theorem arrI_at (h : (ins D hst i).length ≤ p) (hp : p < n) : (arrI D hst n i)[p]? = some p := by
  unfold arrI
  rw [List.getElem?_append_right h, List.getElem?_range' (by omega)]
  congr 1
  omega
theorem arrI_yes (h : outB hst (D.kd i) = true) : arrI D hst n (i + 1) = arrI D hst n i := by unfold arrI; rw [ins_yes h]
theorem arrI_no (h : outB hst (D.kd i) = false) (hi : i < n) : (arrI D hst n i).set (ins D hst i).length i = arrI D hst n (i + 1) := by
  have h9 := ins_len (D := D) (hst := hst) (i := i)
  unfold arrI
  rw [ins_no h, List.set_append_right _ _ (Nat.le_refl _), Nat.sub_self]
  obtain ⟨m, hm⟩ : ∃ m, n - (ins D hst i).length = m + 1 := ⟨n - (ins D hst i).length - 1, by omega⟩
  rw [hm, List.range'_succ, List.set_cons_zero, List.length_append, List.length_singleton, List.append_assoc]
  rw [show n - ((ins D hst i).length + 1) = m by omega]
  rfl
end
theorem makeStms (n : Nat) (hn : n ≤ 1048576) (w : World) : (Instr.makeSlice 40 (.int .i64 (n : Int)) (.int .i64 (n : Int))).run Tryd.prog w = .ok (.slice (some ⟨w.heap.size, 0, none⟩) n n) (w.alloc (.cells (full stmZ [] n) 61)) := by
  obtain ⟨i, hi, z1, z2, z3⟩ := info_parts infoStm
  exact run_mk_full w 40 61 i (.agg stmZ) 2 24 Tryd.underlying40 hi z1 z2 z3 rfl .i64 .i64 n n (Nat.le_refl _) (by omega) (by omega)

end Go.Proofs.YtikopplofkemlaaDoor.Use
namespace Go.Proofs.YtikopplofkemlaaDoor.Use
open Go.ChangeShapes Go.WideShapes Go.ChangeAt Go.RowKit Go.Sort Own
set_option linter.unusedVariables false
def stR (D : Dt) (i g : Nat) : Array Value := full stmZ (tab (stC D) i) g
theorem stC_len (D : Dt) (i : Nat) : (stC D i).length = 2 := rfl
theorem tab_stL (D : Dt) (n : Nat) : tab (stC D) n = stL D (List.range n) := by
  induction n with
  | zero => rfl
  | succ n ih => rw [tab_succ, ih, List.range_succ, stL_append, stL_one]
def updT (D : Dt) (i a : Nat) : Dt := { D with ad := fun j => if j = i then a else D.ad j }
theorem updT_ad (D : Dt) (i a : Nat) : (updT D i a).ad i = a := if_pos rfl
theorem stC_upd {D : Dt} {i a j : Nat} (h : j ≠ i) : stC (updT D i a) j = stC D j := by
  unfold stC
  rw [show (updT D i a).ad j = D.ad j from if_neg h]
  rfl
theorem tab_upd (D : Dt) (i a : Nat) : ∀ k, k ≤ i → tab (stC (updT D i a)) k = tab (stC D) k
  | 0, _ => rfl
  | k + 1, h => by rw [tab_succ, tab_succ, tab_upd D i a k (by omega), stC_upd (by omega)]
theorem stR_at0 (D : Dt) (i g : Nat) : (stR D i (g + 1))[i * 2]? = some .nilIface := by
  have := full_room (z := stmZ) (l := tab (stC D) i) (c := g) (o := 0) rfl
  rwa [tab_length (stC_len D) i, Nat.add_zero] at this
theorem stR_at1 (D : Dt) (i g : Nat) : (stR D i (g + 1))[i * 2 + 1]? = some (.int .i32 0) := by
  have := full_room (z := stmZ) (l := tab (stC D) i) (c := g) (o := 1) rfl
  rwa [tab_length (stC_len D) i] at this
theorem stR_next (D : Dt) (i g a : Nat) (u v : Value) (h : [u, v] = stC (updT D i a) i) : ((stR D i (g + 1)).setIfInBounds (i * 2) u).setIfInBounds (i * 2 + 1) v = stR (updT D i a) (i + 1) g := by
  have := full_next2 (z := stmZ) (l := tab (stC D) i) (c := g) u v rfl
  rw [tab_length (stC_len D) i] at this
  unfold stR
  rw [this, tab_succ, tab_upd D i a i (Nat.le_refl i), h]
/-- The declarations' nodes, laid so far. -/
def LcX (X : Nat → Obj → Prop) (D : Dt) (k : Nat) : Nat → Obj → Prop := fun b o => X b o ∨ ∃ i, i < k ∧ D.kd i = 3 ∧ b = D.ad i ∧ o = .cells #[.slice none 0 0, .int .u8 0, .bool false, .bool false] 57 (0, 0)
theorem LcX.zero {X : Nat → Obj → Prop} {D : Dt} {b : Nat} {o : Obj} (h : LcX X D 0 b o) : X b o := h.elim id fun ⟨i, hi, _⟩ => absurd hi (Nat.not_lt_zero i)
theorem LcX.skip {X : Nat → Obj → Prop} {D : Dt} {k : Nat} (a : Nat) (hk : D.kd k ≠ 3) : ∀ b o, LcX X (updT D k a) (k + 1) b o → LcX X D k b o := by
  rintro b o (h | ⟨i, hi, hi3, hb, ho⟩)
  · exact Or.inl h
  · have hne : i ≠ k := fun e => hk (e ▸ hi3)
    exact Or.inr ⟨i, by omega, hi3, by rw [hb]; exact if_neg hne, ho⟩
theorem LcX.next {X : Nat → Obj → Prop} {D : Dt} {k : Nat} (a : Nat) : ∀ b o, LcX X (updT D k a) (k + 1) b o → LcX X D k b o ∨ (b = a ∧ o = .cells #[.slice none 0 0, .int .u8 0, .bool false, .bool false] 57 (0, 0)) := by
  rintro b o (h | ⟨i, hi, hi3, hb, ho⟩)
  · exact Or.inl (Or.inl h)
  · by_cases hne : i = k
    · subst hne
      exact Or.inr ⟨hb.trans (if_pos rfl), ho⟩
    · exact Or.inl (Or.inr ⟨i, by omega, hi3, by rw [hb]; exact if_neg hne, ho⟩)

end Go.Proofs.YtikopplofkemlaaDoor.Use
namespace Go.Proofs.YtikopplofkemlaaDoor.Use
open Go.ChangeShapes Go.WideShapes Go.ChangeAt Go.RowKit Go.Sort Own
set_option linter.unusedVariables false
def localStmtPost (sl : Nat) (k0 : Int) (w0 : World) (X : Nat → Obj → Prop) (e : Ending) (w' : World) : Prop :=
  e = .returned (.agg #[.iface 42 (.pointer (some ⟨sl, 0, none⟩)), .int .i32 k0]) ∧ Own w0 w' [] X
set_option maxRecDepth 100000 in
set_option maxHeartbeats 1000000 in
theorem localStmt (sl : Nat) (k0 : Int) (w0 w : World) (X : Nat → Obj → Prop) (hO : Own w0 w [] X)  :
    Calls Tryd.prog 13 #[.int .i32 k0, .pointer (some ⟨sl, 0, none⟩)] w (localStmtPost sl k0 w0 X) := by
  go_enter Tryd.func13, Tryd.ntmps13
  go_wp2_with (first | (with_reducible refine Own.stay (fn := Tryd.f13) ?_) | fail)
  try with_reducible refine Own.Stay.mk ?_
  generalize hW : World.alloc _ _ = W2
  have hN : Own w0 W2 [row (w.heap.size) 61 #[.iface 42 (.pointer (some ⟨sl, 0, none⟩)), .int .i32 k0]] X := by
    rw [← hW]
    exact (hO).alloc' _ (w.heap.size) (by simp)
  clear hW hO
  generalize w.heap.size = B1 at hN ⊢
  have hO := hN
  clear hN
  have z9_0_0 : W2.cell? ⟨B1, 0, none⟩ = some (.iface 42 (.pointer (some ⟨sl, 0, none⟩))) := hO.cell 0 rfl 0 rfl
  have z9_0_1 : W2.cell? ⟨B1, 1, none⟩ = some (.int .i32 k0) := hO.cell 0 rfl 1 rfl
  refine bodyPost_ret (v := .agg #[.iface 42 (.pointer (some ⟨sl, 0, none⟩)), .int .i32 k0]) ?_ rfl ⟨rfl, hO.sub [] (by decide)⟩
  simp [results, Tryd.results13, go_sem, z9_0_0, z9_0_1]
end Go.Proofs.YtikopplofkemlaaDoor.Use
namespace Go.Proofs.YtikopplofkemlaaDoor.Use
open Go.ChangeShapes Go.WideShapes Go.ChangeAt Go.RowKit Go.Sort Own
set_option linter.unusedVariables false
def u8Z : Array Value := #[.int .u8 0]
theorem infoU8 : (Tryd.prog.info? 5).map (fun i => (i.zero, i.size, i.bytes)) = some (some (.int .u8 0), 1, 1) := by kernel_rfl
theorem makeU8s (n : Nat) (hn : n ≤ 1048576) (w : World) : (Instr.makeSlice 122 (.int .i64 (n : Int)) (.int .i64 (n : Int))).run Tryd.prog w = .ok (.slice (some ⟨w.heap.size, 0, none⟩) n n) (w.alloc (.cells (full u8Z [] n) 5)) := by
  obtain ⟨i, hi, z1, z2, z3⟩ := info_parts infoU8
  exact run_mk_full w 122 5 i (.int .u8 0) 1 1 Tryd.underlying122 hi z1 z2 z3 rfl .i64 .i64 n n (Nat.le_refl _) (by omega) (by omega)
def itF (U : Nat → Nat) (i : Nat) : List Value := [.int .u8 (U i : Int)]
theorem itF_len (U : Nat → Nat) (i : Nat) : (itF U i).length = 1 := rfl
def itR (U : Nat → Nat) (n : Nat) : Array Value := full u8Z (tab (itF U) n) 0
theorem itR_get {U : Nat → Nat} {n i : Nat} (h : i < n) : (itR U n)[i]? = some (.int .u8 (U i : Int)) := by
  have := full_at (z := u8Z) (c := 0) (tab_at (itF_len U) h (o := 0) rfl)
  rwa [Nat.mul_one] at this
theorem Base.cell_belowA {w0 w : World} {a : Addr} {v : Value} (hb : Below w0.heap.size w0 w) (h : w0.cell? a = some v) : w.cell? a = some v := by
  rw [← h]
  refine hb.cell (p := a) ?_
  simp only [World.cell?] at h
  cases hx : w0.heap[a.block]? with
  | none => rw [hx] at h; simp at h
  | some x => exact (Array.getElem?_eq_some_iff.1 hx).1

def copyU8Post (sa : Addr) (n cp : Nat) (U : Nat → Nat) (w0 : World) (X : Nat → Obj → Prop) (e : Ending) (w' : World) : Prop :=
  ∃ ub : Nat, e = .returned (.slice (some ⟨ub, 0, none⟩) n n) ∧ Own w0 w' [row (ub) 5 (itR U n)] X
set_option maxRecDepth 100000 in
set_option maxHeartbeats 1000000 in
theorem copyU8 (sa : Addr) (n cp : Nat) (U : Nat → Nat) (w0 w : World) (X : Nat → Obj → Prop) (hO : Own w0 w [] X) (hn : n ≤ 4096) (hB : ∀ i, i < n → w0.cell? (sa.add i) = some (.int .u8 (U i : Int))) :
    Calls Tryd.prog 31 #[.slice (some sa) n cp] w (copyU8Post sa n cp U w0 X) := by
  have hmk := makeU8s n (by omega)
  have heq := fun w => Lib.run_eql_slice_nil (P := Tryd.prog) w
  have HB := Lib.hid hB
  clear hB
  go_enter Tryd.func31, Tryd.ntmps31
  go_wp2
  go_loopg [4] n (fun gf s4 wx => ∃ k : Nat, s4 = .int .i64 (k : Int) ∧ k + gf = n ∧ Own w0 wx [row w.heap.size 5 (full u8Z (tab (itF U) k) gf)] X)
  case atStart => exact ⟨0, rfl, by omega, hO.alloc _⟩
  case round =>
    obtain ⟨k, rfl, hk, hR⟩ := hrel
    have hl := tab_length (itF_len U) k
    rw [Nat.mul_one] at hl
    by_cases hlt : k < n
    · obtain ⟨g', rfl⟩ : ∃ g', gk = g' + 1 := ⟨gk - 1, by omega⟩
      have hc := hR.cell 0 rfl _ (full_room (o := 0) rfl)
      rw [Nat.add_zero, hl] at hc
      have hf := hR.free 0 rfl k
      have hlt' : (k : Int) < n := by omega
      have ho := HB.out k hlt
      have ho2 : wr.cell? (sa.add k) = some (.int .u8 (U k : Int)) := Base.cell_belowA hR.below ho
      have H := Lib.hid hR
      clear hR ho
      go_wp2
      go_roundg g'
      case measure => omega
      case rel =>
        refine ⟨k + 1, by simp, by omega, ?_⟩
        rw [tab_succ, itF]
        exact H.out.next1 0 rfl rfl k hl.symm _
    · obtain rfl : gk = 0 := by omega
      obtain rfl : k = n := by omega
      go_wp2
      go_returns
      exact ⟨_, rfl, hR⟩

end Go.Proofs.YtikopplofkemlaaDoor.Use
namespace Go.Proofs.YtikopplofkemlaaDoor.Use
open Go.ChangeShapes Go.WideShapes Go.ChangeAt Go.RowKit Go.Sort Own
set_option linter.unusedVariables false
def curPartPost (pb : Nat) (PC : Array Value) (pt : Nat) (w0 : World) (X : Nat → Obj → Prop) (e : Ending) (w' : World) : Prop :=
  e = .returned (.pointer (some ⟨pt, 0, none⟩)) ∧ Own w0 w' [row (pb) 252 PC] X
set_option maxRecDepth 100000 in
set_option maxHeartbeats 1000000 in
theorem curPart (pb : Nat) (PC : Array Value) (pt : Nat) (w0 w : World) (X : Nat → Obj → Prop) (hO : Own w0 w [row (pb) 252 PC] X) (hk105 : PC[105]? = some (.pointer (some ⟨pt, 0, none⟩))) :
    Calls Tryd.prog 22 #[.pointer (some ⟨pb, 0, none⟩)] w (curPartPost pb PC pt w0 X) := by
  go_enter Tryd.func22, Tryd.ntmps22
  obtain ⟨ix9, hix9, hax9, hjx9⟩ := hO.ix
  have ix9_0 : ix9 pb = 0 := hjx9 0 _ _ rfl
  clear hjx9
  have c9_0_105 : w.cell? ⟨pb, 105, none⟩ = some (.pointer (some ⟨pt, 0, none⟩)) := hO.cell 0 rfl (105) (hk105)
  have lt9_0 : pb < w.heap.size := hO.lt 0 rfl
  have y9_0 : ∀ o, w.frozen? ⟨pb, o, none⟩ = false := hO.free 0 rfl
  have HO := Lib.hid hO
  clear hO
  go_wp2_with (first | (with_reducible refine Own.stay (fn := Tryd.f22) ?_) | fail)
  try with_reducible refine Own.Stay.mk ?_
  have hO := HO.out
  clear HO hix9 hax9 ix9_0 ix9 c9_0_105 lt9_0 y9_0
  refine bodyPost_ret (v := .pointer (some ⟨pt, 0, none⟩)) ?_ rfl ⟨rfl, hO.sub [0] (by decide)⟩
  simp [results, Tryd.results22, go_sem]
def ctxStackPost (cx : Nat) (l0 ra rj : Int) (aw : Bool) (w0 : World) (X : Nat → Obj → Prop) (e : Ending) (w' : World) : Prop :=
  e = .returned (.agg #[.int .u32 ra, .int .u32 rj]) ∧ Own w0 w' [row (cx) 33 #[.int .i32 l0, .int .u32 ra, .int .u32 rj, .bool aw]] X
set_option maxRecDepth 100000 in
set_option maxHeartbeats 1000000 in
theorem ctxStack (cx : Nat) (l0 ra rj : Int) (aw : Bool) (w0 w : World) (X : Nat → Obj → Prop) (hO : Own w0 w [row (cx) 33 #[.int .i32 l0, .int .u32 ra, .int .u32 rj, .bool aw]] X)  :
    Calls Tryd.prog 10 #[.pointer (some ⟨cx, 0, none⟩)] w (ctxStackPost cx l0 ra rj aw w0 X) := by
  go_enter Tryd.func10, Tryd.ntmps10
  obtain ⟨c9_0_0, c9_0_1, c9_0_2, c9_0_3, lt9_0, y9_0, -⟩ := hO.k4 0 rfl
  have HO := Lib.hid hO
  clear hO
  go_wp2_with (first | (with_reducible refine Own.stay (fn := Tryd.f10) ?_) | fail)
  try with_reducible refine Own.Stay.mk ?_
  have hO := HO.out
  clear HO c9_0_0 c9_0_1 c9_0_2 c9_0_3 lt9_0 y9_0
  generalize hW : World.alloc _ _ = W2
  have hN : Own w0 W2 [row (w.heap.size) 31 #[.int .u32 ra, .int .u32 rj], row (cx) 33 #[.int .i32 l0, .int .u32 ra, .int .u32 rj, .bool aw]] X := by
    rw [← hW]
    exact (hO).alloc' _ (w.heap.size) (by simp)
  clear hW hO
  generalize w.heap.size = B1 at hN ⊢
  have hO := hN
  clear hN
  have z9_0_0 : W2.cell? ⟨B1, 0, none⟩ = some (.int .u32 ra) := hO.cell 0 rfl 0 rfl
  have z9_0_1 : W2.cell? ⟨B1, 1, none⟩ = some (.int .u32 rj) := hO.cell 0 rfl 1 rfl
  refine bodyPost_ret (v := .agg #[.int .u32 ra, .int .u32 rj]) ?_ rfl ⟨rfl, hO.sub [1] (by decide)⟩
  simp [results, Tryd.results10, go_sem, z9_0_0, z9_0_1]
def asLocalPost (nb : Nat) (l0 : Int) (w0 : World) (X : Nat → Obj → Prop) (e : Ending) (w' : World) : Prop :=
  e = .returned (.pointer (some ⟨nb, 0, none⟩)) ∧ Own w0 w' [] X
set_option maxRecDepth 100000 in
set_option maxHeartbeats 1000000 in
theorem asLocal (nb : Nat) (l0 : Int) (w0 w : World) (X : Nat → Obj → Prop) (hO : Own w0 w [] X)  :
    Calls Tryd.prog 15 #[.agg #[.iface 42 (.pointer (some ⟨nb, 0, none⟩)), .int .i32 l0]] w (asLocalPost nb l0 w0 X) := by
  go_enter Tryd.func15, Tryd.ntmps15
  go_wp2_with (first | (with_reducible refine Own.stay (fn := Tryd.f15) ?_) | fail)
  try with_reducible refine Own.Stay.mk ?_
  generalize hW : World.alloc _ _ = W2
  have hN : Own w0 W2 [row (w.heap.size) 61 #[.iface 42 (.pointer (some ⟨nb, 0, none⟩)), .int .i32 l0]] X := by
    rw [← hW]
    exact (hO).alloc' _ (w.heap.size) (by simp)
  clear hW hO
  generalize w.heap.size = B1 at hN ⊢
  have hO := hN
  clear hN
  refine bodyPost_ret (v := .pointer (some ⟨nb, 0, none⟩)) ?_ rfl ⟨rfl, hO.sub [] (by decide)⟩
  simp [results, Tryd.results15, go_sem]
def asTryPost (nb : Nat) (l0 : Int) (w0 : World) (X : Nat → Obj → Prop) (e : Ending) (w' : World) : Prop :=
  e = .returned (.pointer (some ⟨nb, 0, none⟩)) ∧ Own w0 w' [] X
set_option maxRecDepth 100000 in
set_option maxHeartbeats 1000000 in
theorem asTry (nb : Nat) (l0 : Int) (w0 w : World) (X : Nat → Obj → Prop) (hO : Own w0 w [] X)  :
    Calls Tryd.prog 17 #[.agg #[.iface 67 (.pointer (some ⟨nb, 0, none⟩)), .int .i32 l0]] w (asTryPost nb l0 w0 X) := by
  go_enter Tryd.func17, Tryd.ntmps17
  go_wp2_with (first | (with_reducible refine Own.stay (fn := Tryd.f17) ?_) | fail)
  try with_reducible refine Own.Stay.mk ?_
  generalize hW : World.alloc _ _ = W2
  have hN : Own w0 W2 [row (w.heap.size) 61 #[.iface 67 (.pointer (some ⟨nb, 0, none⟩)), .int .i32 l0]] X := by
    rw [← hW]
    exact (hO).alloc' _ (w.heap.size) (by simp)
  clear hW hO
  generalize w.heap.size = B1 at hN ⊢
  have hO := hN
  clear hN
  refine bodyPost_ret (v := .pointer (some ⟨nb, 0, none⟩)) ?_ rfl ⟨rfl, hO.sub [] (by decide)⟩
  simp [results, Tryd.results17, go_sem]
def bindRefPost (nb : Nat) (l0 ra rj : Int) (w0 : World) (X : Nat → Obj → Prop) (e : Ending) (w' : World) : Prop :=
  e = .returned (.tuple #[.agg #[.int .u32 ra, .int .u32 rj], .bool true]) ∧ Own w0 w' [row (nb) 136 #[.int .u32 ra, .int .u32 rj]] X
set_option maxRecDepth 100000 in
set_option maxHeartbeats 1000000 in
theorem bindRef (nb : Nat) (l0 ra rj : Int) (w0 w : World) (X : Nat → Obj → Prop) (hO : Own w0 w [row (nb) 136 #[.int .u32 ra, .int .u32 rj]] X)  :
    Calls Tryd.prog 16 #[.agg #[.iface 134 (.pointer (some ⟨nb, 0, none⟩)), .int .i32 l0]] w (bindRefPost nb l0 ra rj w0 X) := by
  go_enter Tryd.func16, Tryd.ntmps16
  obtain ⟨c9_0_0, c9_0_1, lt9_0, y9_0, -⟩ := hO.k2 0 rfl
  have HO := Lib.hid hO
  clear hO
  go_wp2_with (first | (with_reducible refine Own.stay (fn := Tryd.f16) ?_) | fail)
  try with_reducible refine Own.Stay.mk ?_
  have hO := HO.out
  clear HO c9_0_0 c9_0_1 lt9_0 y9_0
  generalize hW : World.alloc _ _ = W2
  have hN : Own w0 W2 [row (w.heap.size + 1) 31 #[.int .u32 ra, .int .u32 rj], row (w.heap.size) 47 #[.iface 134 (.pointer (some ⟨nb, 0, none⟩)), .int .i32 l0], row (nb) 136 #[.int .u32 ra, .int .u32 rj]] X := by
    rw [← hW]
    exact ((hO).alloc' _ (w.heap.size) (by simp)).alloc' _ (w.heap.size + 1) (by simp)
  clear hW hO
  generalize w.heap.size + 1 = B1_1 at hN ⊢
  generalize w.heap.size = B1 at hN ⊢
  have hO := hN
  clear hN
  have z9_0_0 : W2.cell? ⟨B1_1, 0, none⟩ = some (.int .u32 ra) := hO.cell 0 rfl 0 rfl
  have z9_0_1 : W2.cell? ⟨B1_1, 1, none⟩ = some (.int .u32 rj) := hO.cell 0 rfl 1 rfl
  refine bodyPost_ret (v := .tuple #[.agg #[.int .u32 ra, .int .u32 rj], .bool true]) ?_ rfl ⟨rfl, hO.sub [2] (by decide)⟩
  simp [results, Tryd.results16, go_sem, z9_0_0, z9_0_1]
def emptySPost (k0 : Int) (w0 : World) (X : Nat → Obj → Prop) (e : Ending) (w' : World) : Prop :=
  ∃ nb : Nat, e = .returned (.agg #[.iface 275 (.pointer (some ⟨nb, 0, none⟩)), .int .i32 k0]) ∧ Own w0 w' [row (nb) 277 #[]] X
set_option maxRecDepth 100000 in
set_option maxHeartbeats 1000000 in
theorem emptyS (k0 : Int) (w0 w : World) (X : Nat → Obj → Prop) (hO : Own w0 w [] X)  :
    Calls Tryd.prog 32 #[.int .i32 k0] w (emptySPost k0 w0 X) := by
  go_enter Tryd.func32, Tryd.ntmps32
  go_wp2_with (first | (with_reducible refine Own.stay (fn := Tryd.f32) ?_) | fail)
  try with_reducible refine Own.Stay.mk ?_
  generalize hW : World.alloc _ _ = W2
  have hN : Own w0 W2 [row (w.heap.size + 1) 277 #[], row (w.heap.size) 61 #[.iface 275 (.pointer (some ⟨w.heap.size + 1, 0, none⟩)), .int .i32 k0]] X := by
    rw [← hW]
    exact ((hO).alloc' _ (w.heap.size) (by simp)).alloc' _ (w.heap.size + 1) (by simp)
  clear hW hO
  generalize w.heap.size + 1 = B1_1 at hN ⊢
  generalize w.heap.size = B1 at hN ⊢
  have hO := hN
  clear hN
  have z9_1_0 : W2.cell? ⟨B1, 0, none⟩ = some (.iface 275 (.pointer (some ⟨B1_1, 0, none⟩))) := hO.cell 1 rfl 0 rfl
  have z9_1_1 : W2.cell? ⟨B1, 1, none⟩ = some (.int .i32 k0) := hO.cell 1 rfl 1 rfl
  refine bodyPost_ret (v := .agg #[.iface 275 (.pointer (some ⟨B1_1, 0, none⟩)), .int .i32 k0]) ?_ rfl ⟨B1_1, rfl, hO.sub [0] (by decide)⟩
  simp [results, Tryd.results32, go_sem, z9_1_0, z9_1_1]
def dirSPost (k0 : Int) (w0 : World) (X : Nat → Obj → Prop) (e : Ending) (w' : World) : Prop :=
  ∃ nb : Nat, e = .returned (.agg #[.iface 278 (.pointer (some ⟨nb, 0, none⟩)), .int .i32 k0]) ∧ Own w0 w' [row (nb) 280 #[.slice none 0 0, .int .i32 0]] X
set_option maxRecDepth 100000 in
set_option maxHeartbeats 1000000 in
theorem dirS (k0 : Int) (w0 w : World) (X : Nat → Obj → Prop) (hO : Own w0 w [] X)  :
    Calls Tryd.prog 33 #[.int .i32 k0] w (dirSPost k0 w0 X) := by
  go_enter Tryd.func33, Tryd.ntmps33
  go_wp2_with (first | (with_reducible refine Own.stay (fn := Tryd.f33) ?_) | fail)
  try with_reducible refine Own.Stay.mk ?_
  generalize hW : World.alloc _ _ = W2
  have hN : Own w0 W2 [row (w.heap.size + 1) 280 #[.slice none 0 0, .int .i32 0], row (w.heap.size) 61 #[.iface 278 (.pointer (some ⟨w.heap.size + 1, 0, none⟩)), .int .i32 k0]] X := by
    rw [← hW]
    exact ((hO).alloc' _ (w.heap.size) (by simp)).alloc' _ (w.heap.size + 1) (by simp)
  clear hW hO
  generalize w.heap.size + 1 = B1_1 at hN ⊢
  generalize w.heap.size = B1 at hN ⊢
  have hO := hN
  clear hN
  have z9_1_0 : W2.cell? ⟨B1, 0, none⟩ = some (.iface 278 (.pointer (some ⟨B1_1, 0, none⟩))) := hO.cell 1 rfl 0 rfl
  have z9_1_1 : W2.cell? ⟨B1, 1, none⟩ = some (.int .i32 k0) := hO.cell 1 rfl 1 rfl
  refine bodyPost_ret (v := .agg #[.iface 278 (.pointer (some ⟨B1_1, 0, none⟩)), .int .i32 k0]) ?_ rfl ⟨B1_1, rfl, hO.sub [0] (by decide)⟩
  simp [results, Tryd.results33, go_sem, z9_1_0, z9_1_1]
def funSPost (k0 : Int) (w0 : World) (X : Nat → Obj → Prop) (e : Ending) (w' : World) : Prop :=
  ∃ nb : Nat, e = .returned (.agg #[.iface 281 (.pointer (some ⟨nb, 0, none⟩)), .int .i32 k0]) ∧ Own w0 w' [row (nb) 288 #[.pointer none, .slice none 0 0, .slice none 0 0, .int .i32 0, .int .i32 0, .int .u32 0, .int .u32 0, .int .i32 0, .bool false, .bool false, .bool false, .bool false, .bool false, .bool false, .bool false]] X
set_option maxRecDepth 100000 in
set_option maxHeartbeats 1000000 in
theorem funS (k0 : Int) (w0 w : World) (X : Nat → Obj → Prop) (hO : Own w0 w [] X)  :
    Calls Tryd.prog 34 #[.int .i32 k0] w (funSPost k0 w0 X) := by
  go_enter Tryd.func34, Tryd.ntmps34
  go_wp2_with (first | (with_reducible refine Own.stay (fn := Tryd.f34) ?_) | fail)
  try with_reducible refine Own.Stay.mk ?_
  generalize hW : World.alloc _ _ = W2
  have hN : Own w0 W2 [row (w.heap.size + 1) 288 #[.pointer none, .slice none 0 0, .slice none 0 0, .int .i32 0, .int .i32 0, .int .u32 0, .int .u32 0, .int .i32 0, .bool false, .bool false, .bool false, .bool false, .bool false, .bool false, .bool false], row (w.heap.size) 61 #[.iface 281 (.pointer (some ⟨w.heap.size + 1, 0, none⟩)), .int .i32 k0]] X := by
    rw [← hW]
    exact ((hO).alloc' _ (w.heap.size) (by simp)).alloc' _ (w.heap.size + 1) (by simp)
  clear hW hO
  generalize w.heap.size + 1 = B1_1 at hN ⊢
  generalize w.heap.size = B1 at hN ⊢
  have hO := hN
  clear hN
  have z9_1_0 : W2.cell? ⟨B1, 0, none⟩ = some (.iface 281 (.pointer (some ⟨B1_1, 0, none⟩))) := hO.cell 1 rfl 0 rfl
  have z9_1_1 : W2.cell? ⟨B1, 1, none⟩ = some (.int .i32 k0) := hO.cell 1 rfl 1 rfl
  refine bodyPost_ret (v := .agg #[.iface 281 (.pointer (some ⟨B1_1, 0, none⟩)), .int .i32 k0]) ?_ rfl ⟨B1_1, rfl, hO.sub [0] (by decide)⟩
  simp [results, Tryd.results34, go_sem, z9_1_0, z9_1_1]
end Go.Proofs.YtikopplofkemlaaDoor.Use
namespace Go.Proofs.YtikopplofkemlaaDoor.Use
open Go.ChangeShapes Go.WideShapes Go.ChangeAt Go.RowKit Go.Sort Own
set_option linter.unusedVariables false
def awaitPPost (pb : Nat) (PC : Array Value) (ea : Nat) (loc : Int) (w0 : World) (X : Nat → Obj → Prop) (e : Ending) (w' : World) : Prop :=
  e = .returned (.agg #[.iface 305 (.pointer (some ⟨ea, 0, none⟩)), .int .i32 loc]) ∧ Own w0 w' [row (pb) 252 PC] X
set_option maxRecDepth 100000 in
set_option maxHeartbeats 1000000 in
theorem awaitP (pb : Nat) (PC : Array Value) (ea : Nat) (loc : Int) (w0 w : World) (X : Nat → Obj → Prop) (hO : Own w0 w [row (pb) 252 PC] X) (hk333 : PC[333]? = some (.bool false)) (hk23 : PC[23]? = some (.int .u64 0)) :
    Calls Tryd.prog 50 #[.pointer (some ⟨pb, 0, none⟩), .agg #[.int .i32 loc], .pointer (some ⟨ea, 0, none⟩)] w (awaitPPost pb PC ea loc w0 X) := by
  go_enter Tryd.func50, Tryd.ntmps50
  obtain ⟨ix9, hix9, hax9, hjx9⟩ := hO.ix
  have ix9_0 : ix9 pb = 0 := hjx9 0 _ _ rfl
  clear hjx9
  have c9_0_23 : w.cell? ⟨pb, 23, none⟩ = some (.int .u64 0) := hO.cell 0 rfl (23) (hk23)
  have c9_0_333 : w.cell? ⟨pb, 333, none⟩ = some (.bool false) := hO.cell 0 rfl (333) (hk333)
  have lt9_0 : pb < w.heap.size := hO.lt 0 rfl
  have y9_0 : ∀ o, w.frozen? ⟨pb, o, none⟩ = false := hO.free 0 rfl
  have HO := Lib.hid hO
  clear hO
  go_wp2_with (first | (with_reducible refine Own.stay (fn := Tryd.f50) ?_) | (first | (go_at_call 57; go_in)))
  try with_reducible refine Own.Stay.mk ?_
  have hO := HO.out
  clear HO hix9 hax9 ix9_0 ix9 c9_0_23 c9_0_333 lt9_0 y9_0
  generalize hW : World.alloc _ _ = W2
  have hN : Own w0 W2 [row (w.heap.size + 1) 52 #[.iface 305 (.pointer (some ⟨ea, 0, none⟩)), .int .i32 loc], row (w.heap.size) 28 #[.int .i32 loc], row (pb) 252 PC] X := by
    rw [← hW]
    exact ((hO).alloc' _ (w.heap.size) (by simp)).alloc' _ (w.heap.size + 1) (by simp)
  clear hW hO
  generalize w.heap.size + 1 = B1_1 at hN ⊢
  generalize w.heap.size = B1 at hN ⊢
  have hO := hN
  clear hN
  have z9_0_0 : W2.cell? ⟨B1_1, 0, none⟩ = some (.iface 305 (.pointer (some ⟨ea, 0, none⟩))) := hO.cell 0 rfl 0 rfl
  have z9_0_1 : W2.cell? ⟨B1_1, 1, none⟩ = some (.int .i32 loc) := hO.cell 0 rfl 1 rfl
  refine bodyPost_ret (v := .agg #[.iface 305 (.pointer (some ⟨ea, 0, none⟩)), .int .i32 loc]) ?_ rfl ⟨rfl, hO.sub [2] (by decide)⟩
  simp [results, Tryd.results50, go_sem, z9_0_0, z9_0_1]
end Go.Proofs.YtikopplofkemlaaDoor.Use
