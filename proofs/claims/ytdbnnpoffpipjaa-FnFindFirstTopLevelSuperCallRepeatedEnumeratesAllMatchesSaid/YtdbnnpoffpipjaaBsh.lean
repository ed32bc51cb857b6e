/- The frame with a tree in it. No condition. -/
import Derived.Test.YtdbnnpoffpipjaaLv
import Derived.Test.YtdbnnpoffpipjaaJn
import Derived.Test.YtdbnnpoffpipjaaFin
import Derived.Test.YtdbnnpoffpipjaaFd
import Derived.Test.YtdbnnpoffpipjaaFn1
import Derived.Test.YtdbnnpoffpipjaaFf1
import Derived.Test.YtdbnnpoffpipjaaJn
import Derived.Test.YtdbnnpoffpipjaaTre
import Derived.Test.YtdbnnpoffpipjaaLoop
import Derived.Test.YtdbnnpoffpipjaaAppL
import Derived.Test.YtdbnnpoffpipjaaApp
import Derived.Test.YtdbnnpoffpipjaaOwnK
import Derived.Test.YtdbnnpoffpipjaaOwn
import Derived.Test.YtdbnnpoffpipjaaDeepCells
import Derived.Test.YtdbnnpoffpipjaaRows
namespace Go.Proofs.Ytdbnnpoffpipjaa.Use
open Go.ChangeShapes Go.WideShapes Go.ChangeAt Go.RowKit Go.Sort Own
set_option linter.unusedVariables false
/-- The frame with a tree's nodes in it. -/
def GX (X : Nat → Obj → Prop) (D : Dat) (t : Tr) : Nat → Obj → Prop := fun b o => X b o ∨ ∃ l r, t.Has b l r ∧ o = .cells (binC D l r) 66 (0, 0)
theorem GX.nodes (X : Nat → Obj → Prop) (D : Dat) (t : Tr) : NodesIn (GX X D t) D t := fun b l r h => Or.inr ⟨l, r, h, rfl⟩
theorem _root_.Go.Proofs.Ytdbnnpoffpipjaa.Own.Own.backGX {w0 w' : World} {L : List Rw} {X : Nat → Obj → Prop} {D : Dat} {t : Tr} (h : Own w0 w' [] (GX (Own.Rest L [] X) D t)) (hL : L.Pairwise fun r s => r.1 ≠ s.1) (hX : ∀ b o, X b o → ∀ r, r ∈ L → r.1 ≠ b) (hty : ∀ r, r ∈ L → ∃ c9 y9, r.2 = Obj.cells c9 y9 (0, 0) ∧ y9 ≠ 66) : Own w0 w' L (GX X D t) := by
  have hR : ∀ r, r ∈ L → GX (Own.Rest L [] X) D t r.1 r.2 := fun r hr => by
    obtain ⟨i, hi⟩ := List.getElem?_of_mem hr
    exact Or.inl (Or.inr ⟨i, by simp, hi⟩)
  have hZ : ∀ b o, GX X D t b o → GX (Own.Rest L [] X) D t b o := by
    rintro b o (h1 | h1)
    · exact Or.inl (Or.inl h1)
    · exact Or.inr h1
  refine ⟨h.below, fun r hr => ⟨(h.frame _ _ (hR r hr)).1, (h.frame _ _ (hR r hr)).2.1⟩, hL, fun b o hz => ⟨(h.frame _ _ (hZ b o hz)).1, (h.frame _ _ (hZ b o hz)).2.1, fun r hr e => ?_⟩⟩
  have h7 := (h.frame _ _ (hR r hr)).2.1
  have h8 := (h.frame _ _ (hZ b o hz)).2.1
  rcases hz with h4 | ⟨l, r', h5, h6⟩
  · exact hX _ _ h4 r hr e
  · obtain ⟨c9, y9, h9, h10⟩ := hty r hr
    rw [e, h8, h9, h6] at h7
    injection h7 with h7
    injection h7 with h7a h7b h7c
    exact h10 h7b.symm
def u16Z : Array Value := #[.int .u16 0]
def spF (V : Nat → Nat) (i : Nat) : List Value := [.int .u16 (V i : Int)]
theorem spF_len (V : Nat → Nat) (i : Nat) : (spF V i).length = 1 := rfl
def spR (V : Nat → Nat) (n : Nat) : Array Value := full u16Z (tab (spF V) n) 0
theorem spR_get {V : Nat → Nat} {n i : Nat} (h : i < n) : (spR V n)[i]? = some (.int .u16 (V i : Int)) := by
  have := full_at (z := u16Z) (c := 0) (tab_at (spF_len V) h (o := 0) rfl)
  rwa [Nat.mul_one] at this
theorem range_join {lo k hi : Nat} (h1 : lo ≤ k) (h2 : k ≤ hi) : List.range' lo (k - lo) ++ List.range' k (hi - k) = List.range' lo (hi - lo) := by
  rw [show hi - lo = (k - lo) + (hi - k) by omega, ← List.range'_append_1, show lo + (k - lo) = k by omega]

def bsPost (D : Dat) (lo hi : Nat) (w0 : World) (X : Nat → Obj → Prop) (e : Ending) (w' : World) : Prop :=
  ∃ T : Tr, e = .returned (.agg #[dV D T, .int .i32 (lV T)]) ∧ T.flat = List.range' lo (hi - lo) ∧ Own w0 w' [] (GX X D T)

end Go.Proofs.Ytdbnnpoffpipjaa.Use
