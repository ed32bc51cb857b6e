/- The leaves, laid one by one; the copy of the items. No condition. -/
import Derived.Test.YtdbnnpoffpipjaaFin
import Derived.Test.YtdbnnpoffpipjaaFd
import Derived.Test.YtdbnnpoffpipjaaFn1
import Derived.Test.YtdbnnpoffpipjaaFf1
import Derived.Test.YtdbnnpoffpipjaaJn
import Derived.Test.YtdbnnpoffpipjaaTre
import Derived.Test.YtdbnnpoffpipjaaLoop
import Derived.Test.YtdbnnpoffpipjaaAppL
import Derived.Test.YtdbnnpoffpipjaaApp
import Derived.Test.YtdbnnpoffpipjaaOwnK
import Derived.Test.YtdbnnpoffpipjaaOwn
import Derived.Test.YtdbnnpoffpipjaaDeepCells
import Derived.Test.YtdbnnpoffpipjaaRows
namespace Go.Proofs.Ytdbnnpoffpipjaa.Use
open Go.ChangeShapes Go.WideShapes Go.ChangeAt Go.RowKit Go.Sort Own
set_option linter.unusedVariables false
def exprZ : Array Value := #[.nilIface, .int .i32 0]
def ptrZ : Array Value := #[.pointer none]
def u8Z : Array Value := #[.int .u8 0]
theorem infoExpr : (Try.prog.info? 35).map (fun i => (i.zero, i.size, i.bytes)) = some (some (.agg exprZ), 2, 24) := by kernel_rfl
theorem infoPtr : (Try.prog.info? 36).map (fun i => (i.zero, i.size, i.bytes)) = some (some (.pointer none), 1, 8) := by kernel_rfl
theorem infoU8 : (Try.prog.info? 5).map (fun i => (i.zero, i.size, i.bytes)) = some (some (.int .u8 0), 1, 1) := by kernel_rfl
theorem makeExprs (n : Nat) (hn : n ≤ 1048576) (w : World) : (Instr.makeSlice 28 (.int .i64 (n : Int)) (.int .i64 (n : Int))).run Try.prog w = .ok (.slice (some ⟨w.heap.size, 0, none⟩) n n) (w.alloc (.cells (full exprZ [] n) 35)) := by
  obtain ⟨i, hi, z1, z2, z3⟩ := info_parts infoExpr
  exact run_mk_full w 28 35 i (.agg exprZ) 2 24 Try.underlying28 hi z1 z2 z3 rfl .i64 .i64 n n (Nat.le_refl _) (by omega) (by omega)
theorem makePtrs (n : Nat) (hn : n ≤ 1048576) (w : World) : (Instr.makeSlice 29 (.int .i64 (n : Int)) (.int .i64 (n : Int))).run Try.prog w = .ok (.slice (some ⟨w.heap.size, 0, none⟩) n n) (w.alloc (.cells (full ptrZ [] n) 36)) := by
  obtain ⟨i, hi, z1, z2, z3⟩ := info_parts infoPtr
  exact run_mk_full w 29 36 i (.pointer none) 1 8 Try.underlying29 hi z1 z2 z3 rfl .i64 .i64 n n (Nat.le_refl _) (by omega) (by omega)
theorem makeU8s (n : Nat) (hn : n ≤ 1048576) (w : World) : (Instr.makeSlice 22 (.int .i64 (n : Int)) (.int .i64 (n : Int))).run Try.prog w = .ok (.slice (some ⟨w.heap.size, 0, none⟩) n n) (w.alloc (.cells (full u8Z [] n) 5)) := by
  obtain ⟨i, hi, z1, z2, z3⟩ := info_parts infoU8
  exact run_mk_full w 22 5 i (.int .u8 0) 1 1 Try.underlying22 hi z1 z2 z3 rfl .i64 .i64 n n (Nat.le_refl _) (by omega) (by omega)
def itF (U : Nat → Nat) (i : Nat) : List Value := [.int .u8 (U i : Int)]
theorem itF_len (U : Nat → Nat) (i : Nat) : (itF U i).length = 1 := rfl
def itR (U : Nat → Nat) (n : Nat) : Array Value := full u8Z (tab (itF U) n) 0
theorem itR_get {U : Nat → Nat} {n i : Nat} (h : i < n) : (itR U n)[i]? = some (.int .u8 (U i : Int)) := by
  have := full_at (z := u8Z) (c := 0) (tab_at (itF_len U) h (o := 0) rfl)
  rwa [Nat.mul_one] at this
theorem Base.cell_belowA {w0 w : World} {a : Addr} {v : Value} (hb : Below w0.heap.size w0 w) (h : w0.cell? a = some v) : w.cell? a = some v := by
  rw [← h]
  refine hb.cell (p := a) ?_
  simp only [World.cell?] at h
  cases hx : w0.heap[a.block]? with
  | none => rw [hx] at h; simp at h
  | some x => exact (Array.getElem?_eq_some_iff.1 hx).1
/-- The leaves, laid one by one. -/
def lfF (D : Dat) (i : Nat) : List Value := [dV D (.leaf i), .int .i32 (lV (.leaf i))]
theorem lfF_len (D : Dat) (i : Nat) : (lfF D i).length = 2 := rfl
def lvR (D : Dat) (i g : Nat) : Array Value := full exprZ (tab (lfF D) i) g
def clD (D : Dat) (i : Nat) : Value := if D.kd i = 0 then .pointer none else .pointer (some ⟨D.ad i, 0, none⟩)
def clF (D : Dat) (i : Nat) : List Value := [clD D i]
theorem clF_len (D : Dat) (i : Nat) : (clF D i).length = 1 := rfl
def clR (D : Dat) (i g : Nat) : Array Value := full ptrZ (tab (clF D) i) g
def updD (D : Dat) (i a b : Nat) : Dat := { D with ad := fun j => if j = i then a else D.ad j, ib := fun j => if j = i then b else D.ib j }
theorem updD_ad (D : Dat) (i a b : Nat) : (updD D i a b).ad i = a := if_pos rfl
theorem updD_ib (D : Dat) (i a b : Nat) : (updD D i a b).ib i = b := if_pos rfl
theorem updD_ad' {D : Dat} {i j : Nat} (a b : Nat) (h : j ≠ i) : (updD D i a b).ad j = D.ad j := if_neg h
theorem updD_ib' {D : Dat} {i j : Nat} (a b : Nat) (h : j ≠ i) : (updD D i a b).ib j = D.ib j := if_neg h
theorem dV_upd {D : Dat} {i j : Nat} (a b : Nat) (h : j ≠ i) : dV (updD D i a b) (.leaf j) = dV D (.leaf j) := by
  show lfD _ j = lfD _ j
  unfold lfD
  rw [updD_ad' a b h]
  rfl
theorem tab_lf (D : Dat) (i a b : Nat) : tab (lfF (updD D i a b)) i = tab (lfF D) i := tab_congr fun j hj => by
  show [dV (updD D i a b) (.leaf j), _] = [dV D (.leaf j), _]
  rw [dV_upd a b (by omega)]
theorem tab_cl (D : Dat) (i a b : Nat) : tab (clF (updD D i a b)) i = tab (clF D) i := tab_congr fun j hj => by
  show [clD _ j] = [clD _ j]
  unfold clD
  rw [updD_ad' a b (by omega)]
  rfl
theorem lvR_at0 (D : Dat) (i g : Nat) : (lvR D i (g + 1))[i * 2]? = some (.nilIface) := by
  have := full_room (z := exprZ) (l := tab (lfF D) i) (c := g) (o := 0) rfl
  rwa [tab_length (lfF_len D) i] at this
theorem lvR_at1 (D : Dat) (i g : Nat) : (lvR D i (g + 1))[i * 2 + 1]? = some (.int .i32 0) := by
  have := full_room (z := exprZ) (l := tab (lfF D) i) (c := g) (o := 1) rfl
  rwa [tab_length (lfF_len D) i] at this
theorem lvR_next (D : Dat) (i g a b : Nat) (v : Value) (hv : v = dV (updD D i a b) (.leaf i)) : ((lvR D i (g + 1)).setIfInBounds (i * 2) v).setIfInBounds (i * 2 + 1) (.int .i32 (i : Int)) = lvR (updD D i a b) (i + 1) g := by
  have := full_next2 (z := exprZ) (l := tab (lfF D) i) (c := g) v (.int .i32 (i : Int)) rfl
  rw [tab_length (lfF_len D) i] at this
  unfold lvR
  rw [this, tab_succ, tab_lf, hv]
  rfl
theorem clR_at (D : Dat) (i g : Nat) : (clR D i (g + 1))[i]? = some (.pointer none) := by
  have := full_room (z := ptrZ) (l := tab (clF D) i) (c := g) (o := 0) rfl
  rwa [tab_length (clF_len D) i, Nat.mul_one] at this
theorem clR_next (D : Dat) (i g a b : Nat) (v : Value) (hv : v = clD (updD D i a b) i) : (clR D i (g + 1)).setIfInBounds i v = clR (updD D i a b) (i + 1) g := by
  have := full_next1 (z := ptrZ) (l := tab (clF D) i) (c := g) v rfl
  rw [tab_length (clF_len D) i, Nat.mul_one] at this
  unfold clR
  rw [this, tab_succ, tab_cl, hv]
  rfl
theorem lvR_get0 {D : Dat} {n i : Nat} (g : Nat) (h : i < n) : (lvR D n g)[i * 2]? = some (dV D (.leaf i)) := by
  have := full_at (z := exprZ) (c := g) (tab_at (lfF_len D) h (o := 0) rfl)
  rwa [Nat.add_zero] at this
theorem lvR_get1 {D : Dat} {n i : Nat} (g : Nat) (h : i < n) : (lvR D n g)[i * 2 + 1]? = some (.int .i32 (lV (.leaf i))) := full_at (z := exprZ) (c := g) (tab_at (lfF_len D) h (o := 1) rfl)
theorem clR_get {D : Dat} {n i : Nat} (g : Nat) (h : i < n) : (clR D n g)[i]? = some (clD D i) := by
  have := full_at (z := ptrZ) (c := g) (tab_at (clF_len D) h (o := 0) rfl)
  rwa [Nat.mul_one, Nat.add_zero] at this
theorem clD_nil {D : Dat} {i : Nat} (h : D.kd i = 0) : clD D i = .pointer none := if_pos h
theorem clD_call {D : Dat} {i : Nat} (h : ¬ D.kd i = 0) : clD D i = .pointer (some ⟨D.ad i, 0, none⟩) := if_neg h
/-- The frame with the first k leaves in it. -/
def LvX (X : Nat → Obj → Prop) (D : Dat) (k : Nat) : Nat → Obj → Prop := fun b o => X b o ∨ ∃ i, i < k ∧ ¬ D.kd i = 0 ∧ ((b = D.ad i ∧ o = .cells (callC (.iface 56 (.pointer (some ⟨(D.ib i), 0, none⟩))) (i : Int)) 46 (0, 0)) ∨ (b = D.ib i ∧ o = .cells (idC D.src (D.inr i)) 58 (0, 0)))
theorem LvX.zero {X : Nat → Obj → Prop} {D : Dat} {b : Nat} {o : Obj} (h : LvX X D 0 b o) : X b o := h.elim id fun ⟨i, hi, _⟩ => absurd hi (Nat.not_lt_zero i)
theorem LvX.skip {X : Nat → Obj → Prop} {D : Dat} {k : Nat} (a b' : Nat) (hk : D.kd k = 0) : ∀ b o, LvX X (updD D k a b') (k + 1) b o → LvX X D k b o := by
  rintro b o (h | ⟨i, hi, h0, h⟩)
  · exact Or.inl h
  · have hik : i ≠ k := fun e => h0 (by rw [e]; exact hk)
    rw [updD_ad' a b' hik, updD_ib' a b' hik] at h
    exact Or.inr ⟨i, by omega, h0, h⟩
theorem LvX.next {X : Nat → Obj → Prop} {D : Dat} {k : Nat} (a b' : Nat) : ∀ b o, LvX X (updD D k a b') (k + 1) b o → (LvX X D k b o ∨ (b = b' ∧ o = .cells (idC D.src (D.inr k)) 58 (0, 0))) ∨ (b = a ∧ o = .cells (callC (.iface 56 (.pointer (some ⟨b', 0, none⟩))) (k : Int)) 46 (0, 0)) := by
  rintro b o (h | ⟨i, hi, h0, h⟩)
  · exact Or.inl (Or.inl (Or.inl h))
  · by_cases hik : i = k
    · subst hik
      rw [updD_ad, updD_ib] at h
      rcases h with h | h
      · exact Or.inr h
      · exact Or.inl (Or.inr h)
    · rw [updD_ad' a b' hik, updD_ib' a b' hik] at h
      exact Or.inl (Or.inl (Or.inr ⟨i, by omega, h0, h⟩))
theorem LvX.leaf {X Y : Nat → Obj → Prop} {D : Dat} {n i : Nat} (hY : ∀ b o, LvX X D n b o → Y b o) (h : i < n) : LeafIn Y D i := by
  by_cases h0 : D.kd i = 0
  · exact Or.inl h0
  · exact Or.inr ⟨hY _ _ (Or.inr ⟨i, h, h0, Or.inl ⟨rfl, rfl⟩⟩), hY _ _ (Or.inr ⟨i, h, h0, Or.inr ⟨rfl, rfl⟩⟩)⟩
/-- The calls are apart. -/
def AptD (D : Dat) (n : Nat) : Prop := ∀ i j, i < j → j < n → ¬ D.kd i = 0 → ¬ D.kd j = 0 → D.ad i ≠ D.ad j
theorem AptD.skip {D : Dat} {k : Nat} (h : AptD D k) (a b : Nat) (hk : D.kd k = 0) : AptD (updD D k a b) (k + 1) := by
  intro i j h1 h2 h3 h4
  have hj : j ≠ k := fun e => h4 (by rw [e]; exact hk)
  rw [updD_ad' a b (show i ≠ k by omega), updD_ad' a b hj]
  exact h i j h1 (by omega) h3 h4
theorem AptD.next {D : Dat} {k a : Nat} (h : AptD D k) (b : Nat) (ha : ∀ i, i < k → ¬ D.kd i = 0 → D.ad i ≠ a) : AptD (updD D k a b) (k + 1) := by
  intro i j h1 h2 h3 h4
  rw [updD_ad' a b (show i ≠ k by omega)]
  by_cases hj : j = k
  · subst hj
    rw [updD_ad]
    exact ha i h1 h3
  · rw [updD_ad' a b hj]
    exact h i j h1 (by omega) h3 h4

def copyU8Post (sa : Addr) (n cp : Nat) (U : Nat → Nat) (w0 : World) (X : Nat → Obj → Prop) (e : Ending) (w' : World) : Prop :=
  ∃ ub : Nat, e = .returned (.slice (some ⟨ub, 0, none⟩) n n) ∧ Own w0 w' [row (ub) 5 (itR U n)] X
set_option maxRecDepth 100000 in
set_option maxHeartbeats 1000000 in
theorem copyU8 (sa : Addr) (n cp : Nat) (U : Nat → Nat) (w0 w : World) (X : Nat → Obj → Prop) (hO : Own w0 w [] X) (hn : n ≤ 4096) (hB : ∀ i, i < n → w0.cell? (sa.add i) = some (.int .u8 (U i : Int))) :
    Calls Try.prog 6 #[.slice (some sa) n cp] w (copyU8Post sa n cp U w0 X) := by
  have hmk := makeU8s n (by omega)
  have heq := fun w => Lib.run_eql_slice_nil (P := Try.prog) w
  have HB := Lib.hid hB
  clear hB
  go_enter Try.func6, Try.ntmps6
  go_wp2
  go_loopg [4] n (fun gf s4 wx => ∃ k : Nat, s4 = .int .i64 (k : Int) ∧ k + gf = n ∧ Own w0 wx [row w.heap.size 5 (full u8Z (tab (itF U) k) gf)] X)
  case atStart => exact ⟨0, rfl, by omega, hO.alloc _⟩
  case round =>
    obtain ⟨k, rfl, hk, hR⟩ := hrel
    have hl := tab_length (itF_len U) k
    rw [Nat.mul_one] at hl
    by_cases hlt : k < n
    · obtain ⟨g', rfl⟩ : ∃ g', gk = g' + 1 := ⟨gk - 1, by omega⟩
      have hc := hR.cell 0 rfl _ (full_room (o := 0) rfl)
      rw [Nat.add_zero, hl] at hc
      have hf := hR.free 0 rfl k
      have hlt' : (k : Int) < n := by omega
      have ho := HB.out k hlt
      have ho2 : wr.cell? (sa.add k) = some (.int .u8 (U k : Int)) := Base.cell_belowA hR.below ho
      have H := Lib.hid hR
      clear hR ho
      go_wp2
      go_roundg g'
      case measure => omega
      case rel =>
        refine ⟨k + 1, by simp, by omega, ?_⟩
        rw [tab_succ, itF]
        exact H.out.next1 0 rfl rfl k hl.symm _
    · obtain rfl : gk = 0 := by omega
      obtain rfl : k = n := by omega
      go_wp2
      go_returns
      exact ⟨_, rfl, hR⟩

end Go.Proofs.Ytdbnnpoffpipjaa.Use
