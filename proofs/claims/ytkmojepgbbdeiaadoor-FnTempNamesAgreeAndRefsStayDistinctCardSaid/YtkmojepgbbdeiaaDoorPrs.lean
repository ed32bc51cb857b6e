/- Row 41's lists. No condition. -/
import Derived.Test.YtkmojepgbbdeiaaDoorSrf
import Derived.Test.YtkmojepgbbdeiaaDoorS41h
import Derived.Test.YtkmojepgbbdeiaaDoorSt
namespace Go.Proofs.YtkmojepgbbdeiaaDoor.Use
open Go.ChangeShapes Go.WideShapes Go.ChangeAt Go.RowKit Go.Sort Own
set_option linter.unusedVariables false
/-- The temporaries' list and the list of their refs. -/
def PairsAt (q l : List Value) (m : Nat) : Prop := ∀ i, i < m → ∃ x y : Int, q[i * 4]? = some .nilIface ∧ q[i * 4 + 1]? = some (.int .i32 0) ∧ q[i * 4 + 2]? = some (.int .u32 x) ∧ q[i * 4 + 3]? = some (.int .u32 y) ∧ l[i * 2]? = some (.int .u32 x) ∧ l[i * 2 + 1]? = some (.int .u32 y)
theorem take_two {l : List Value} {i : Nat} {x y : Value} (hx : l[i * 2]? = some x) (hy : l[i * 2 + 1]? = some y) : l.take (i * 2) ++ [x, y] = l.take ((i + 1) * 2) := by
  rw [show (i + 1) * 2 = i * 2 + 1 + 1 by omega, List.take_add_one, List.take_add_one, hx, hy]
  simp
theorem at_end {a b : List Value} {n k o : Nat} {v : Value} (ha : a.length = n * k) (h : b[o]? = some v) : (a ++ b)[n * k + o]? = some v := by
  rw [List.getElem?_append_right (by omega), ha, Nat.add_sub_cancel_left]
  exact h
theorem at_low {a b : List Value} {o : Nat} {v : Value} (h : a[o]? = some v) : (a ++ b)[o]? = some v := by
  rw [List.getElem?_append_left (List.getElem?_eq_some_iff.1 h).1]
  exact h
theorem pairsS (src : Int) (B : Nat → Bool) (c : Bool) : ∀ j, PairsAt (qS src B c j) (rS src B c j) (cn B c j)
  | 0 => fun i hi => absurd hi (Nat.not_lt_zero i)
  | j + 1 => by
    intro i hi
    have ih := pairsS src B c j
    have hq := qS_length src B c j
    have hr := rS_length src B c j
    by_cases h : B j = c
    · have e1 : qS src B c (j + 1) = qS src B c j ++ q0L src j := (sel_yes h).symm
      have e2 : rS src B c (j + 1) = rS src B c j ++ r0 src j := (sel_yes h).symm
      rw [cn_yes h] at hi
      rw [e1, e2]
      by_cases hlt : i < cn B c j
      · obtain ⟨x, y, h1, h2, h3, h4, h5, h6⟩ := ih i hlt
        exact ⟨x, y, at_low h1, at_low h2, at_low h3, at_low h4, at_low h5, at_low h6⟩
      · obtain rfl : i = cn B c j := by omega
        exact ⟨src, (j : Int), at_end (o := 0) hq rfl, at_end (o := 1) hq rfl, at_end (o := 2) hq rfl, at_end (o := 3) hq rfl, at_end (o := 0) hr rfl, at_end (o := 1) hr rfl⟩
    · have e1 : qS src B c (j + 1) = qS src B c j := (sel_no h).symm
      have e2 : rS src B c (j + 1) = rS src B c j := (sel_no h).symm
      rw [cn_no h] at hi
      rw [e1, e2]
      exact ih i hi
theorem refsS (src : Int) (B : Nat → Bool) (c : Bool) (j : Nat) : RefsAt (rS src B c j) (cn B c j) := fun i hi => by
  obtain ⟨x, y, -, -, -, -, h5, h6⟩ := pairsS src B c j i hi
  exact ⟨x, y, h5, h6⟩
theorem refsG (src : Int) (j : Nat) : RefsAt (gL src j) j := fun i hi => ⟨src, (i : Int), tab_at (k := 2) (f := r0 src) (fun _ => rfl) hi (o := 0) rfl, tab_at (k := 2) (f := r0 src) (fun _ => rfl) hi (o := 1) rfl⟩

end Go.Proofs.YtkmojepgbbdeiaaDoor.Use
