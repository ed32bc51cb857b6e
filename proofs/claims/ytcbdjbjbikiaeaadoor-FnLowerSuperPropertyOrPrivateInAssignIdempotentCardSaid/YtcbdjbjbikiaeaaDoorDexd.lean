/- Rows of expressions beside the items. No condition. -/
import Derived.Test.YtcbdjbjbikiaeaaDoorNdt
import Derived.Test.YtcbdjbjbikiaeaaDoorItm
import Derived.Test.YtcbdjbjbikiaeaaDoorOwn
import Derived.Test.YtcbdjbjbikiaeaaDoorOwnK
import Derived.Test.YtcbdjbjbikiaeaaDoorLoop
import Derived.Test.YtcbdjbjbikiaeaaDoorApp
import Derived.Test.YtcbdjbjbikiaeaaDoorDeepCells
import Derived.Test.YtcbdjbjbikiaeaaDoorRows
import Derived.Test.YtcbdjbjbikiaeaaDoorDead
namespace Go.Proofs.YtcbdjbjbikiaeaaDoor.Use
open Go.ChangeShapes Go.WideShapes Go.ChangeAt Go.RowKit Go.Sort Own
set_option linter.unusedVariables false
/-- Objects of expressions. -/
def tyE : Obj → Prop
  | .cells _ t _ => t = 30
  | _ => False
theorem NodT.backE {w0 w' : World} {L M : List Rw} {is : List Nat} {X Y : Nat → Obj → Prop} {D : Dm} {nw : Nat → Nat} {k m : Nat} (h : Own w0 w' M (NodT Y D nw k m)) (hY : ∀ b o, Own.Rest L is X b o → Y b o) (hL : L.Pairwise fun r s => r.1 ≠ s.1) (js : List Nat) (hn : js.Nodup) (hd : ∀ j, j ∈ js → j ∉ is) (hty : ∀ r, r ∈ js.filterMap (L[·]?) → tyE r.2) :
    Own w0 w' (M ++ js.filterMap (L[·]?)) (NodT (fun b o => Y b o ∧ ¬ tyE o) D nw k m) := by
  have hr9 : ∀ r, r ∈ js.filterMap (L[·]?) → NodT Y D nw k m r.1 r.2 := fun r hr => by
    obtain ⟨j, hj, he⟩ := List.mem_filterMap.1 hr
    exact Or.inl (hY _ _ (Or.inr ⟨j, hd j hj, he⟩))
  refine ⟨h.below, fun r hr => ?_, ?_, fun b o hx => ?_⟩
  · rcases List.mem_append.1 hr with hr | hr
    · exact h.rows r hr
    · exact ⟨(h.frame _ _ (hr9 r hr)).1, (h.frame _ _ (hr9 r hr)).2.1⟩
  · exact List.pairwise_append.2 ⟨h.apart, pick_apart hL hn, fun r hr s hs => (h.frame _ _ (hr9 s hs)).2.2 r hr⟩
  · have hx9 : NodT Y D nw k m b o := hx.elim (fun h => Or.inl h.1) Or.inr
    have f := h.frame b o hx9
    refine ⟨f.1, f.2.1, fun r hr => ?_⟩
    rcases List.mem_append.1 hr with hr | hr
    · exact f.2.2 r hr
    · intro e
      have g := (h.frame _ _ (hr9 r hr)).2.1
      rw [e, f.2.1] at g
      have ho : tyE o := by rw [Option.some.inj g]; exact hty r hr
      rcases hx with hx | ⟨i, _, _, _, h5⟩
      · exact hx.2 ho
      · rw [h5] at ho
        unfold tnO at ho
        split at ho
        · exact absurd (show (234 : Nat) = 30 from ho) (by decide)
        · exact absurd (show (243 : Nat) = 30 from ho) (by decide)
theorem ntE {c : Array Value} {t : Nat} {p : Nat × Nat} (h : t ≠ 30) : ¬ tyE (.cells c t p) := fun h9 => h h9
theorem RawI.monoE {X Y : Nat → Obj → Prop} (h : ∀ b o, X b o → ¬ tyE o → Y b o) {D : Dm} {nm : ByteArray} {i : Nat} : RawI X D nm i → RawI Y D nm i := by
  rintro (⟨h1, kx, h2⟩ | ⟨h1, kx, ib, h2⟩ | ⟨h1, kx, h2⟩ | ⟨h1, kx, h2⟩ | h1 | ⟨h1, h2, kx, h3⟩)
  · exact Or.inl ⟨h1, kx, h _ _ h2 (ntE (by decide))⟩
  · exact Or.inr (Or.inl ⟨h1, kx, ib, h _ _ h2 (ntE (by decide))⟩)
  · exact Or.inr (Or.inr (Or.inl ⟨h1, kx, h _ _ h2 (ntE (by decide))⟩))
  · exact Or.inr (Or.inr (Or.inr (Or.inl ⟨h1, kx, h _ _ h2 (ntE (by decide))⟩)))
  · exact Or.inr (Or.inr (Or.inr (Or.inr (Or.inl h1))))
  · exact Or.inr (Or.inr (Or.inr (Or.inr (Or.inr ⟨h1, h _ _ h2 (ntE (by decide)), kx, h _ _ h3 (ntE (by decide))⟩))))
theorem DotC.restE {Y : Nat → Obj → Prop} {l : Bool} {d : Nat} : DotC Y l d → DotC (fun b o => Y b o ∧ ¬ tyE o) l d := fun ⟨kT, kx, tl, nl, nm, h1, h2⟩ => ⟨kT, kx, tl, nl, nm, h1, h2, ntE (by decide)⟩
theorem SepT.rest {L : List Rw} {is : List Nat} {X : Nat → Obj → Prop} {D : Dm} {nw : Nat → Nat} {k m : Nat} (hs : SepT X D m) (hX : ∀ b o, NodT X D nw k m b o → ∀ r, r ∈ L → r.1 ≠ b) : SepT (Own.Rest L is X) D m := by
  rintro b o (h | ⟨j, _, hj⟩) i hi ht
  · exact hs b o h i hi ht
  · exact hX _ _ (Or.inr ⟨i, hi, ht, rfl, rfl⟩) _ (List.mem_of_getElem? hj)
theorem NodT.rest {L : List Rw} {is : List Nat} {X : Nat → Obj → Prop} {D : Dm} {nw : Nat → Nat} {k m : Nat} : ∀ b o, NodT (Own.Rest L is X) D nw k m b o → Own.Rest L is (NodT X D nw k m) b o := by
  rintro b o ((h | h) | h)
  · exact Or.inl (Or.inl h)
  · exact Or.inr h
  · exact Or.inl (Or.inr h)

end Go.Proofs.YtcbdjbjbikiaeaaDoor.Use
