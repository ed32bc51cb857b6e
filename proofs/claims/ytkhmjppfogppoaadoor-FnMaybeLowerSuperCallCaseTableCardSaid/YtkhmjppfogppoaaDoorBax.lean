/- The frame with the argument nodes in it. No condition. -/
import Derived.Test.YtkhmjppfogppoaaDoorCall
import Derived.Test.YtkhmjppfogppoaaDoorLoop
import Derived.Test.YtkhmjppfogppoaaDoorLive
import Derived.Test.YtkhmjppfogppoaaDoorApp
import Derived.Test.YtkhmjppfogppoaaDoorOwnK
import Derived.Test.YtkhmjppfogppoaaDoorOwn
import Derived.Test.YtkhmjppfogppoaaDoorDeepCells
import Derived.Test.YtkhmjppfogppoaaDoorRows
import Derived.Test.YtkhmjppfogppoaaDoorUse
namespace Go.Proofs.YtkhmjppfogppoaaDoor.Use
open Go.ChangeShapes Go.WideShapes Go.ChangeAt Go.RowKit Go.Sort Own
set_option linter.unusedVariables false
theorem _root_.Go.Proofs.YtkhmjppfogppoaaDoor.Own.Own.backAX {w0 w' : World} {M L : List Rw} {X : Nat → Obj → Prop} {blk : Nat → Nat} {n : Nat} (h : Own w0 w' M (argsX (Own.Rest L [] X) blk n)) (hL : L.Pairwise fun r s => r.1 ≠ s.1) (hX : ∀ b o, X b o → ∀ r, r ∈ L → r.1 ≠ b) (hty : ∀ r, r ∈ L → (∃ c9 y9, r.2 = Obj.cells c9 y9 (0, 0) ∧ y9 ≠ 211) ∨ ∃ es k, r.2 = Obj.map es k) : Own w0 w' (M ++ L) (argsX X blk n) := by
  have hR : ∀ r, r ∈ L → argsX (Own.Rest L [] X) blk n r.1 r.2 := fun r hr => by
    obtain ⟨i, hi⟩ := List.getElem?_of_mem hr
    exact Or.inl (Or.inr ⟨i, by simp, hi⟩)
  have hZ : ∀ b o, argsX X blk n b o → argsX (Own.Rest L [] X) blk n b o := by
    rintro b o (h1 | h1)
    · exact Or.inl (Or.inl h1)
    · exact Or.inr h1
  refine ⟨h.below, fun r hr => ?_, List.pairwise_append.2 ⟨h.apart, hL, fun r hr s hs => (h.frame _ _ (hR s hs)).2.2 r hr⟩, fun b o hz => ⟨(h.frame _ _ (hZ b o hz)).1, (h.frame _ _ (hZ b o hz)).2.1, fun r hr e => ?_⟩⟩
  · rcases List.mem_append.1 hr with hr | hr
    · exact h.rows r hr
    · exact ⟨(h.frame _ _ (hR r hr)).1, (h.frame _ _ (hR r hr)).2.1⟩
  · rcases List.mem_append.1 hr with hr | hr
    · exact (h.frame _ _ (hZ b o hz)).2.2 r hr e
    · have h7 := (h.frame _ _ (hR r hr)).2.1
      have h8 := (h.frame _ _ (hZ b o hz)).2.1
      rcases hz with h4 | ⟨i, h5, h6, h6b⟩
      · exact hX _ _ h4 r hr e
      · rw [e, h8] at h7
        injection h7 with h7
        rcases hty r hr with ⟨c9, y9, h9, h10⟩ | ⟨es, k, h9⟩
        · rw [h6b, h9] at h7
          injection h7 with h7a h7b h7c
          exact h10 h7b.symm
        · rw [h6b, h9] at h7
          cases h7

end Go.Proofs.YtkhmjppfogppoaaDoor.Use
