/- Row 33: what the steps need. No condition. -/
import Derived.Test.YtdbnnpoffpipjaaL33h
import Derived.Test.YtdbnnpoffpipjaaBsf
import Derived.Test.YtdbnnpoffpipjaaFlc
import Derived.Test.YtdbnnpoffpipjaaLp
import Derived.Test.YtdbnnpoffpipjaaCu
import Derived.Test.YtdbnnpoffpipjaaLf
import Derived.Test.YtdbnnpoffpipjaaIr
import Derived.Test.YtdbnnpoffpipjaaDr
import Derived.Test.YtdbnnpoffpipjaaLv
import Derived.Test.YtdbnnpoffpipjaaFlb
import Derived.Test.YtdbnnpoffpipjaaFin
import Derived.Test.YtdbnnpoffpipjaaFll
import Derived.Test.YtdbnnpoffpipjaaRdr
import Derived.Test.YtdbnnpoffpipjaaFfl
import Derived.Test.YtdbnnpoffpipjaaFfr
import Derived.Test.YtdbnnpoffpipjaaFnb
import Derived.Test.YtdbnnpoffpipjaaFp
import Derived.Test.YtdbnnpoffpipjaaFd
import Derived.Test.YtdbnnpoffpipjaaFn1
import Derived.Test.YtdbnnpoffpipjaaFf1
import Derived.Test.YtdbnnpoffpipjaaJn
import Derived.Test.YtdbnnpoffpipjaaTre
import Derived.Test.YtdbnnpoffpipjaaLoop
import Derived.Test.YtdbnnpoffpipjaaAppL
import Derived.Test.YtdbnnpoffpipjaaApp
import Derived.Test.YtdbnnpoffpipjaaOwnK
import Derived.Test.YtdbnnpoffpipjaaOwn
import Derived.Test.YtdbnnpoffpipjaaDeepCells
import Derived.Test.YtdbnnpoffpipjaaRows
namespace Go.Proofs.Ytdbnnpoffpipjaa.Use
open Go.ChangeShapes Go.WideShapes Go.ChangeAt Go.RowKit Go.Sort Own
set_option linter.unusedVariables false
theorem flt_none {D : Dat} : ∀ {m lo : Nat}, (List.range' lo m).filter (fun q => D.kd q == 1) = [] → ∀ q, lo ≤ q → q < lo + m → D.kd q ≠ 1 := by
  intro m lo h q h1 h2 h3
  rw [List.filter_eq_nil_iff] at h
  exact h q (List.mem_range'.2 ⟨q - lo, by omega, by omega⟩) (by simp [h3])
theorem flt_some {D : Dat} {k : Nat} {rst : List Nat} : ∀ {m lo : Nat}, (List.range' lo m).filter (fun q => D.kd q == 1) = k :: rst → lo ≤ k ∧ k < lo + m ∧ D.kd k = 1 ∧ (∀ q, lo ≤ q → q < k → D.kd q ≠ 1) ∧ rst = (List.range' (k + 1) (lo + m - (k + 1))).filter (fun q => D.kd q == 1) := by
  intro m
  induction m with
  | zero => intro lo h; cases h
  | succ m ih =>
    intro lo h
    rw [List.range'_succ, List.filter_cons] at h
    by_cases h1 : D.kd lo = 1
    · rw [if_pos (by simp [h1])] at h
      injection h with ha hb
      subst ha
      refine ⟨Nat.le_refl _, by omega, h1, fun q h2 h3 => absurd h2 (by omega), ?_⟩
      rw [← hb, show lo + (m + 1) - (lo + 1) = m by omega]
    · rw [if_neg (by simp [h1])] at h
      obtain ⟨h2, h3, h4, h5, h6⟩ := ih h
      refine ⟨by omega, by omega, h4, fun q h7 h8 => ?_, ?_⟩
      · rcases Nat.lt_or_ge lo q with h9 | h9
        · exact h5 q h9 h8
        · rw [show q = lo by omega]; exact h1
      · rw [h6, show lo + 1 + m - (k + 1) = lo + (m + 1) - (k + 1) by omega]
theorem flt_cases {D : Dat} {lo n fo s : Nat} {SL : List Nat} (hln : lo ≤ n) (hsl : SL.length = s) (hfs : fo ≤ s) (hdr : SL.drop fo = (List.range' lo (n - lo)).filter (fun q => D.kd q == 1)) :
    (fo = s ∧ ∀ q, lo ≤ q → q < n → D.kd q ≠ 1) ∨ ∃ k, lo ≤ k ∧ k < n ∧ fo < s ∧ SL[fo]? = some k ∧ D.kd k = 1 ∧ (∀ q, lo ≤ q → q < k → D.kd q ≠ 1) ∧ SL.drop (fo + 1) = (List.range' (k + 1) (n - (k + 1))).filter (fun q => D.kd q == 1) := by
  cases hc : (List.range' lo (n - lo)).filter (fun q => D.kd q == 1) with
  | nil =>
    rw [hc] at hdr
    have := List.drop_eq_nil_iff.1 hdr
    exact Or.inl ⟨by omega, fun q h1 h2 => flt_none hc q h1 (by omega)⟩
  | cons k rst =>
    rw [hc] at hdr
    obtain ⟨h2, h3, h4, h5, h6⟩ := flt_some hc
    have hlt : fo < SL.length := by
      rcases Nat.lt_or_ge fo SL.length with h | h
      · exact h
      · rw [List.drop_eq_nil_iff.2 h] at hdr; cases hdr
    rw [List.drop_eq_getElem_cons hlt] at hdr
    injection hdr with ha hb
    refine Or.inr ⟨k, h2, by omega, by omega, ?_, h4, h5, ?_⟩
    · rw [List.getElem?_eq_getElem hlt, ha]
    · rw [hb, h6, show lo + (n - lo) - (k + 1) = n - (k + 1) by omega]
theorem rng_split {lo k n : Nat} (h1 : lo ≤ k) (h2 : k < n) : List.range' lo (n - lo) = List.range' lo (k - lo) ++ k :: List.range' (k + 1) (n - (k + 1)) := by
  rw [show n - lo = (k - lo) + ((n - (k + 1)) + 1) by omega, ← List.range'_append_1, List.range'_succ, show lo + (k - lo) = k by omega]
theorem LeafIn.xf {X : Nat → Obj → Prop} {D : Dat} {q k : Nat} {A B : List Nat} {es c : Nat} (h : LeafIn X D q) (h1 : ¬ D.kd q = 0 → D.ad q ≠ D.ad k) (h2 : ¬ D.kd q = 0 → D.ib q ≠ D.ad k) : LeafIn (XF X D k A B es c) D q := by
  by_cases h0 : D.kd q = 0
  · exact Or.inl h0
  · rcases h with h | ⟨ha, hb⟩
    · exact absurd h h0
    · exact Or.inr ⟨Or.inl ⟨ha, h1 h0⟩, Or.inl ⟨hb, h2 h0⟩⟩
theorem LeafIn.yes {X : Nat → Obj → Prop} {D : Dat} {q : Nat} (h : LeafIn X D q) (h0 : ¬ D.kd q = 0) : X (D.ad q) (.cells (callC (.iface 56 (.pointer (some ⟨(D.ib q), 0, none⟩))) q) 46 (0, 0)) ∧ X (D.ib q) (.cells (idC D.src (D.inr q)) 58 (0, 0)) := h.elim (fun h => absurd h h0) id
theorem NodesO.bf {X : Nat → Obj → Prop} {D : Dat} {k : Nat} {A B : List Nat} {es c : Nat} : NodesO (XF X D k A B es c) D (bfA A c) := by
  cases h : bfA A c with
  | none => exact trivial
  | some t => exact fun b l r h9 => Or.inr (Or.inr ⟨t, l, r, Or.inl h, h9, rfl⟩)
theorem NodesO.af {X : Nat → Obj → Prop} {D : Dat} {k : Nat} {A B : List Nat} {es c : Nat} : NodesO (XF X D k A B es c) D (afB B c) := by
  cases h : afB B c with
  | none => exact trivial
  | some t => exact fun b l r h9 => Or.inr (Or.inr ⟨t, l, r, Or.inr h, h9, rfl⟩)
theorem AptD.ne {D : Dat} {n q k : Nat} (h : AptD D n) (h1 : q < n) (h2 : k < n) (h3 : q ≠ k) (h4 : ¬ D.kd q = 0) (h5 : ¬ D.kd k = 0) : D.ad q ≠ D.ad k := by
  rcases Nat.lt_or_gt_of_ne h3 with h6 | h6
  · exact h q k h6 h2 h4 h5
  · exact (h k q h6 h1 h5 h4).symm

end Go.Proofs.Ytdbnnpoffpipjaa.Use
