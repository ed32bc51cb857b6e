/- Row 47's lists of numbers; the rest of its code. No condition. -/
import Derived.Test.YtikopplofkemlaaDoorMsc
import Derived.Test.YtikopplofkemlaaDoorEls
import Derived.Test.YtikopplofkemlaaDoorUmp
import Derived.Test.YtikopplofkemlaaDoorLive
import Derived.Test.YtikopplofkemlaaDoorLoop
import Derived.Test.YtikopplofkemlaaDoorUms
import Derived.Test.YtikopplofkemlaaDoorAppL
import Derived.Test.YtikopplofkemlaaDoorApp
import Derived.Test.YtikopplofkemlaaDoorOwnK
import Derived.Test.YtikopplofkemlaaDoorOwn
import Derived.Test.YtikopplofkemlaaDoorDeepCells
import Derived.Test.YtikopplofkemlaaDoorRows
import Derived.Test.YtikopplofkemlaaDoorUse
namespace Go.Proofs.YtikopplofkemlaaDoor.Use
open Go.ChangeShapes Go.WideShapes Go.ChangeAt Go.RowKit Go.Sort Own
set_option linter.unusedVariables false
/-- Rows that are set aside. -/
def FR (B : List Rw) (X : Nat → Obj → Prop) : Nat → Obj → Prop := fun b o => X b o ∨ (b, o) ∈ B
section
variable {w0 w : World} {A B L M : List Rw} {X : Nat → Obj → Prop}
theorem _root_.Go.Proofs.YtikopplofkemlaaDoor.Own.Own.aside (h : Own w0 w (A ++ B) X) : Own w0 w A (FR B X) := by
  have hp := List.pairwise_append.1 h.apart
  refine ⟨h.below, fun r hr => h.rows r (List.mem_append_left _ hr), hp.1, fun b o hx => ?_⟩
  rcases hx with hx | hx
  · have := h.frame b o hx
    exact ⟨this.1, this.2.1, fun r hr => this.2.2 r (List.mem_append_left _ hr)⟩
  · have := h.rows (b, o) (List.mem_append_right _ hx)
    exact ⟨this.1, this.2, fun r hr => hp.2.2 r hr (b, o) hx⟩
theorem _root_.Go.Proofs.YtikopplofkemlaaDoor.Own.Own.tail (h : Own w0 w (A ++ B) X) : B.Pairwise (fun r s => r.1 ≠ s.1) ∧ ∀ b o, X b o → ∀ r, r ∈ B → r.1 ≠ b :=
  ⟨(List.pairwise_append.1 h.apart).2.1, fun b o hx r hr => (h.frame b o hx).2.2 r (List.mem_append_right _ hr)⟩
theorem _root_.Go.Proofs.YtikopplofkemlaaDoor.Own.Own.bring (h : Own w0 w A (FR B X)) (hB : B.Pairwise (fun r s => r.1 ≠ s.1) ∧ ∀ b o, X b o → ∀ r, r ∈ B → r.1 ≠ b) : Own w0 w (A ++ B) X := by
  refine ⟨h.below, fun r hr => ?_, List.pairwise_append.2 ⟨h.apart, hB.1, fun r hr s hs => (h.frame s.1 s.2 (Or.inr hs)).2.2 r hr⟩, fun b o hx => ?_⟩
  · rcases List.mem_append.1 hr with hr | hr
    · exact h.rows r hr
    · have := h.frame r.1 r.2 (Or.inr hr)
      exact ⟨this.1, this.2.1⟩
  · have := h.frame b o (Or.inl hx)
    refine ⟨this.1, this.2.1, fun r hr => ?_⟩
    rcases List.mem_append.1 hr with hr | hr
    · exact this.2.2 r hr
    · exact hB.2 b o hx r hr
theorem _root_.Go.Proofs.YtikopplofkemlaaDoor.Own.Own.perm (h : Own w0 w L X) (p : L.Perm M) : Own w0 w M X :=
  ⟨h.below, fun r hr => h.rows r (p.mem_iff.2 hr), (p.pairwise_iff (fun {x y} hxy => hxy.symm)).1 h.apart, fun b o hx => ⟨(h.frame b o hx).1, (h.frame b o hx).2.1, fun r hr => (h.frame b o hx).2.2 r (p.mem_iff.2 hr)⟩⟩
end
def i32Z : Array Value := #[.int .i32 0]
theorem infoI32 : (Tryd.prog.info? 21).map (fun i => (i.zero, i.size, i.bytes)) = some (some (.int .i32 0), 1, 4) := by kernel_rfl
theorem app_at {l m : List Value} {i : Nat} {v : Value} (h : l[i]? = some v) : (l ++ m)[i]? = some v := by
  rw [List.getElem?_append_left (List.getElem?_eq_some_iff.1 h).1]
  exact h
def iL (l : List Nat) : List Value := l.map fun j : Nat => .int .i32 ((j : Int) + 1)
theorem iL_append (l m : List Nat) : iL (l ++ m) = iL l ++ iL m := List.map_append
theorem iL_length (l : List Nat) : (iL l).length = l.length := List.length_map _
theorem iL_at {l : List Nat} {p j : Nat} (h : l[p]? = some j) : (iL l)[p]? = some (.int .i32 ((j : Int) + 1)) := by simp [iL, h]
/-- A list of numbers that is nil while it is empty: its slice and its row. -/
def LsP (s : Value) (L : List Rw) (l : List Nat) : Prop := (l = [] ∧ s = .slice none 0 0 ∧ L = []) ∨ ∃ b c r : Nat, r = l.length ∧ 0 < r ∧ s = .slice (some ⟨b, 0, none⟩) r (r + c) ∧ L = [row b 21 (full i32Z (iL l) c)]
/-- The same, where the row stands in the frame. -/
def LsF (s : Value) (X : Nat → Obj → Prop) (l : List Nat) : Prop := ∃ (so : Option Addr) (co : Nat), s = .slice so l.length co ∧ (0 < l.length → ∃ b c : Nat, so = some ⟨b, 0, none⟩ ∧ X b (.cells (full i32Z (iL l) c) 21 (0, 0)))
theorem LsP.f {s : Value} {L : List Rw} {l : List Nat} {X : Nat → Obj → Prop} (h : LsP s L l) (hX : ∀ b o, (b, o) ∈ L → X b o) : LsF s X l := by
  rcases h with ⟨rfl, rfl, rfl⟩ | ⟨b, c, r, hr, h0, rfl, rfl⟩
  · exact ⟨none, 0, rfl, fun h => absurd h (Nat.lt_irrefl 0)⟩
  · subst hr
    exact ⟨some ⟨b, 0, none⟩, _, rfl, fun _ => ⟨b, c, rfl, hX _ _ (List.mem_singleton.2 rfl)⟩⟩
noncomputable def rest47a : Code := cutC 13 (Tryd.f6.body.getD .skip)
noncomputable def rest47b : Code := cutC 16 (Tryd.f6.body.getD .skip)

end Go.Proofs.YtikopplofkemlaaDoor.Use
