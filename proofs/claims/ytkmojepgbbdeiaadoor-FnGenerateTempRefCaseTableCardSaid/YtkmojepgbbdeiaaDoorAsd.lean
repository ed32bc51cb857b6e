/- Rows set aside in the frame, rows that may be absent. No condition. -/
import Derived.Test.YtkmojepgbbdeiaaDoorLoop
import Derived.Test.YtkmojepgbbdeiaaDoorAppL
import Derived.Test.YtkmojepgbbdeiaaDoorApp
import Derived.Test.YtkmojepgbbdeiaaDoorOwnK
import Derived.Test.YtkmojepgbbdeiaaDoorOwn
import Derived.Test.YtkmojepgbbdeiaaDoorDeepCells
import Derived.Test.YtkmojepgbbdeiaaDoorRows
import Derived.Test.YtkmojepgbbdeiaaDoorLive
namespace Go.Proofs.YtkmojepgbbdeiaaDoor.Use
open Go.ChangeShapes Go.WideShapes Go.ChangeAt Go.RowKit Go.Sort Own
set_option linter.unusedVariables false
/-- A slice that is nil while it is empty. -/
def oS (a b c : Nat) : Value := if a = 0 then .slice none 0 0 else .slice (some ⟨b, 0, none⟩) a (a + c)
/-- The row of such a slice, while it is not empty. -/
def optl (a : Nat) (r : Rw) : List Rw := if a = 0 then [] else [r]
theorem oS_pos {a b c : Nat} (h : a ≠ 0) : oS a b c = .slice (some ⟨b, 0, none⟩) a (a + c) := if_neg h
theorem optl_pos {a : Nat} {r : Rw} (h : a ≠ 0) : optl a r = [r] := if_neg h
theorem optl_zero (r : Rw) : optl 0 r = [] := rfl
theorem oS_succ (a b c : Nat) : oS (a + 1) b c = .slice (some ⟨b, 0, none⟩) (a + 1) (a + 1 + c) := if_neg (by omega)
theorem optl_succ (a : Nat) (r : Rw) : optl (a + 1) r = [r] := if_neg (by omega)
/-- Rows that are set aside. -/
def FR (B : List Rw) (X : Nat → Obj → Prop) : Nat → Obj → Prop := fun b o => X b o ∨ (b, o) ∈ B
section
variable {w0 w : World} {A B L M : List Rw} {X : Nat → Obj → Prop}
theorem _root_.Go.Proofs.YtkmojepgbbdeiaaDoor.Own.Own.aside (h : Own w0 w (A ++ B) X) : Own w0 w A (FR B X) := by
  have hp := List.pairwise_append.1 h.apart
  refine ⟨h.below, fun r hr => h.rows r (List.mem_append_left _ hr), hp.1, fun b o hx => ?_⟩
  rcases hx with hx | hx
  · have := h.frame b o hx
    exact ⟨this.1, this.2.1, fun r hr => this.2.2 r (List.mem_append_left _ hr)⟩
  · have := h.rows (b, o) (List.mem_append_right _ hx)
    exact ⟨this.1, this.2, fun r hr => hp.2.2 r hr (b, o) hx⟩
theorem _root_.Go.Proofs.YtkmojepgbbdeiaaDoor.Own.Own.tail (h : Own w0 w (A ++ B) X) : B.Pairwise (fun r s => r.1 ≠ s.1) ∧ ∀ b o, X b o → ∀ r, r ∈ B → r.1 ≠ b :=
  ⟨(List.pairwise_append.1 h.apart).2.1, fun b o hx r hr => (h.frame b o hx).2.2 r (List.mem_append_right _ hr)⟩
theorem _root_.Go.Proofs.YtkmojepgbbdeiaaDoor.Own.Own.bring (h : Own w0 w A (FR B X)) (hB : B.Pairwise (fun r s => r.1 ≠ s.1) ∧ ∀ b o, X b o → ∀ r, r ∈ B → r.1 ≠ b) : Own w0 w (A ++ B) X := by
  refine ⟨h.below, fun r hr => ?_, List.pairwise_append.2 ⟨h.apart, hB.1, fun r hr s hs => (h.frame s.1 s.2 (Or.inr hs)).2.2 r hr⟩, fun b o hx => ?_⟩
  · rcases List.mem_append.1 hr with hr | hr
    · exact h.rows r hr
    · have := h.frame r.1 r.2 (Or.inr hr)
      exact ⟨this.1, this.2.1⟩
  · have := h.frame b o (Or.inl hx)
    refine ⟨this.1, this.2.1, fun r hr => ?_⟩
    rcases List.mem_append.1 hr with hr | hr
    · exact this.2.2 r hr
    · exact hB.2 b o hx r hr
theorem _root_.Go.Proofs.YtkmojepgbbdeiaaDoor.Own.Own.perm (h : Own w0 w L X) (p : L.Perm M) : Own w0 w M X :=
  ⟨h.below, fun r hr => h.rows r (p.mem_iff.2 hr), (p.pairwise_iff (fun {x y} hxy => hxy.symm)).1 h.apart, fun b o hx => ⟨(h.frame b o hx).1, (h.frame b o hx).2.1, fun r hr => (h.frame b o hx).2.2 r (p.mem_iff.2 hr)⟩⟩
theorem permR (A R Q L G : List Rw) : ((A ++ R) ++ (Q ++ (L ++ G))).Perm ((A ++ (Q ++ G)) ++ (R ++ L)) := by
  rw [List.append_assoc, List.append_assoc]
  refine List.Perm.append_left A ?_
  refine (List.perm_append_comm_assoc R Q (L ++ G)).trans ?_
  rw [List.append_assoc]
  refine List.Perm.append_left Q ?_
  rw [← List.append_assoc]
  exact List.perm_append_comm
theorem permL (A R Q L G : List Rw) : ((A ++ R) ++ (Q ++ (L ++ G))).Perm ((A ++ (L ++ G)) ++ (R ++ Q)) := by
  rw [List.append_assoc, List.append_assoc]
  refine List.Perm.append_left A ?_
  rw [← List.append_assoc R Q]
  exact List.perm_append_comm
theorem permQ (A R Q L G : List Rw) : ((A ++ R) ++ (Q ++ (L ++ G))).Perm ((A ++ Q) ++ (R ++ (L ++ G))) := by
  rw [List.append_assoc, List.append_assoc]
  refine List.Perm.append_left A ?_
  exact List.perm_append_comm_assoc R Q (L ++ G)
theorem permT (A R Q L G : List Rw) : ((A ++ R) ++ (Q ++ (L ++ G))).Perm ((A ++ L) ++ (R ++ (Q ++ G))) := by
  rw [List.append_assoc, List.append_assoc]
  refine List.Perm.append_left A ?_
  refine (List.Perm.append_left R (List.perm_append_comm_assoc Q L G)).trans ?_
  exact List.perm_append_comm_assoc R L (Q ++ G)
theorem permG (A R Q L G : List Rw) : ((A ++ R) ++ (Q ++ (L ++ G))).Perm ((A ++ G) ++ (R ++ (Q ++ L))) := by
  rw [List.append_assoc, List.append_assoc]
  refine List.Perm.append_left A ?_
  rw [← List.append_assoc Q L, ← List.append_assoc R]
  exact List.perm_append_comm
end

end Go.Proofs.YtkmojepgbbdeiaaDoor.Use
