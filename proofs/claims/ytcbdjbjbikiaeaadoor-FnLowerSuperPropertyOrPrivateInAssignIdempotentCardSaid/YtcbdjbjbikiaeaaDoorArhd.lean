/- Arrays of items, some lowered. No condition. -/
import Derived.Test.YtcbdjbjbikiaeaaDoorIta
import Derived.Test.YtcbdjbjbikiaeaaDoorNdt
import Derived.Test.YtcbdjbjbikiaeaaDoorItm
import Derived.Test.YtcbdjbjbikiaeaaDoorOwn
import Derived.Test.YtcbdjbjbikiaeaaDoorOwnK
import Derived.Test.YtcbdjbjbikiaeaaDoorLoop
import Derived.Test.YtcbdjbjbikiaeaaDoorApp
import Derived.Test.YtcbdjbjbikiaeaaDoorDeepCells
import Derived.Test.YtcbdjbjbikiaeaaDoorRows
import Derived.Test.YtcbdjbjbikiaeaaDoorDead
namespace Go.Proofs.YtcbdjbjbikiaeaaDoor.Use
open Go.ChangeShapes Go.WideShapes Go.ChangeAt Go.RowKit Go.Sort Own
set_option linter.unusedVariables false
theorem tab_set2 {f f' : Nat → List Value} {j : Nat} {u v : Value} (hf : ∀ i, (f i).length = 2) (hn : ∀ i, i ≠ j → f' i = f i) (hj : f' j = [u, v]) : ∀ n, j < n → ((tab f n).set (j * 2) u).set (j * 2 + 1) v = tab f' n
  | 0, h => absurd h (Nat.not_lt_zero j)
  | n + 1, h => by
    have hl := tab_length hf n
    rw [tab_succ, tab_succ]
    by_cases e : j = n
    · subst e
      rw [List.set_append_right _ _ (by omega), List.set_append_right _ _ (by omega), hl, show j * 2 - j * 2 = 0 by omega, show j * 2 + 1 - j * 2 = 1 by omega, hj, tab_congr (f := f') (g := f) (fun i hi => hn i (by omega))]
      have h2 := hf j
      match hx : f j, h2 with
      | [a, b], _ => rfl
    · have hjn : j < n := by omega
      rw [List.set_append_left _ _ (by omega), List.set_append_left _ _ (by rw [List.length_set]; omega), tab_set2 hf hn hj n hjn, hn n (fun h9 => e h9.symm)]
theorem itR_set {t b t' b' : Nat → Nat} {j n u v : Nat} (hj : j < n) (hn : ∀ i, i ≠ j → t' i = t i ∧ b' i = b i) (hu : t' j = u) (hv : b' j = v) :
    ((itR t b n 0).setIfInBounds (j * 2) (.iface u (.pointer (some ⟨v, 0, none⟩)))).setIfInBounds (j * 2 + 1) (.int .i32 (2 * (j : Int))) = itR t' b' n 0 := by
  subst hu
  subst hv
  have h0 : (tab (itF t b) n)[j * 2]? = some (.iface (t j) (.pointer (some ⟨(b j), 0, none⟩))) := tab_at (itF_len t b) hj (o := 0) rfl
  have h1 : ((tab (itF t b) n).set (j * 2) (.iface (t' j) (.pointer (some ⟨(b' j), 0, none⟩))))[j * 2 + 1]? = some (.int .i32 (2 * (j : Int))) := by
    rw [List.getElem?_set_ne (by omega)]
    exact tab_at (itF_len t b) hj (o := 1) rfl
  unfold itR
  rw [full_set (i := j * 2) h0 _, full_set (i := j * 2 + 1) h1 _, tab_set2 (f' := itF t' b') (itF_len t b) (fun i hi => by unfold itF; rw [(hn i hi).1, (hn i hi).2]) rfl n hj]
theorem v1_other {D : Dm} {nw : Nat → Nat} {j a : Nat} : ∀ i, i ≠ j → vT1 D (j + 1) i = vT1 D j i ∧ vB1 D (updN nw j a) (j + 1) i = vB1 D nw j i := by
  intro i hi
  unfold vT1 vB1 updN
  by_cases h : i < j ∧ D.kd i < 2
  · rw [if_pos h, if_pos h, if_pos ⟨by omega, h.2⟩, if_pos ⟨by omega, h.2⟩, if_neg hi]
    exact ⟨rfl, rfl⟩
  · have h9 : ¬ (i < j + 1 ∧ D.kd i < 2) := fun h9 => h ⟨by omega, h9.2⟩
    rw [if_neg h, if_neg h, if_neg h9, if_neg h9]
    exact ⟨rfl, rfl⟩
theorem v1_hot {D : Dm} {nw : Nat → Nat} {j a : Nat} (h : D.kd j < 2) : vT1 D (j + 1) j = 40 ∧ vB1 D (updN nw j a) (j + 1) j = a := by
  unfold vT1 vB1 updN
  rw [if_pos ⟨by omega, h⟩, if_pos ⟨by omega, h⟩, if_pos rfl]
  exact ⟨rfl, rfl⟩
theorem v1_cold {D : Dm} {nw : Nat → Nat} {j a : Nat} (h : ¬ D.kd j < 2) : vT1 D (j + 1) j = t0 (D.kd j) ∧ vB1 D (updN nw j a) (j + 1) j = D.nd j := by
  unfold vT1 vB1
  rw [if_neg (fun h9 => h h9.2), if_neg (fun h9 => h h9.2)]
  exact ⟨rfl, rfl⟩
theorem v1_now {D : Dm} {nw : Nat → Nat} {j : Nat} : vT1 D j j = t0 (D.kd j) ∧ vB1 D nw j j = D.nd j := by
  unfold vT1 vB1
  rw [if_neg (fun h9 => absurd h9.1 (Nat.lt_irrefl j)), if_neg (fun h9 => absurd h9.1 (Nat.lt_irrefl j))]
  exact ⟨rfl, rfl⟩
theorem itR_pass {D : Dm} {nw : Nat → Nat} {j a n : Nat} (h : ¬ D.kd j < 2) : itR (vT1 D (j + 1)) (vB1 D (updN nw j a) (j + 1)) n 0 = itR (vT1 D j) (vB1 D nw j) n 0 := itR_congr fun i _ => by
  by_cases e : i = j
  · subst e
    exact ⟨(v1_now (nw := nw)).1.trans (v1_cold (nw := nw) (a := a) h).1.symm, v1_now.2.trans (v1_cold h).2.symm⟩
  · exact ⟨(v1_other (nw := nw) (a := a) i e).1.symm, (v1_other i e).2.symm⟩

end Go.Proofs.YtcbdjbjbikiaeaaDoor.Use
