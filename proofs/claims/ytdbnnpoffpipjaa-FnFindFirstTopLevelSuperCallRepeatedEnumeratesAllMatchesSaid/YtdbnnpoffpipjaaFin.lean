/- The search, told for every tree. No condition. -/
import Derived.Test.YtdbnnpoffpipjaaFfl
import Derived.Test.YtdbnnpoffpipjaaFfr
import Derived.Test.YtdbnnpoffpipjaaFnb
import Derived.Test.YtdbnnpoffpipjaaFp
import Derived.Test.YtdbnnpoffpipjaaFd
import Derived.Test.YtdbnnpoffpipjaaFn1
import Derived.Test.YtdbnnpoffpipjaaFf1
import Derived.Test.YtdbnnpoffpipjaaJn
import Derived.Test.YtdbnnpoffpipjaaTre
import Derived.Test.YtdbnnpoffpipjaaLoop
import Derived.Test.YtdbnnpoffpipjaaAppL
import Derived.Test.YtdbnnpoffpipjaaApp
import Derived.Test.YtdbnnpoffpipjaaOwnK
import Derived.Test.YtdbnnpoffpipjaaOwn
import Derived.Test.YtdbnnpoffpipjaaDeepCells
import Derived.Test.YtdbnnpoffpipjaaRows
namespace Go.Proofs.Ytdbnnpoffpipjaa.Use
open Go.ChangeShapes Go.WideShapes Go.ChangeAt Go.RowKit Go.Sort Own
set_option linter.unusedVariables false
theorem ident_ne {w0 w : World} {L : List Rw} {X : Nat → Obj → Prop} (h : Own w0 w L X) {a b : Nat} {c d : Array Value} (h1 : X b (.cells c 58 (0, 0))) (h2 : X a (.cells d 46 (0, 0))) : b ≠ a := by
  intro e
  subst e
  have h3 := (h.frame _ _ h1).2.1
  rw [(h.frame _ _ h2).2.1] at h3
  injection h3 with h3
  injection h3 with h3a h3b h3c
  exact absurd h3b (by decide)
theorem dV_num {D : Dat} {i : Nat} (h : D.kd i = 0) : dV D (.leaf i) = .iface 59 (.pointer (some ⟨D.ad i, 0, none⟩)) := if_pos h
theorem dV_call {D : Dat} {i : Nat} (h : ¬ D.kd i = 0) : dV D (.leaf i) = .iface 36 (.pointer (some ⟨D.ad i, 0, none⟩)) := if_neg h
theorem findN (D : Dat) (hne : ¬ D.inx = D.inn) (w0 : World) : ∀ (t : Tr) (w : World) (X : Nat → Obj → Prop), Own w0 w [] X → NodesIn X D t → (∀ i, i ∈ t.flat → LeafIn X D i) → (∀ i, i ∈ t.flat → D.kd i ≠ 1) → Calls Try.prog 17 #[.agg #[dV D t, .int .i32 (lV t)], .agg #[.int .u32 D.src, .int .u32 D.inn]] w (findNPost D t w0 X)
  | .leaf i, w, X, hO, hN, hV, h1 => by
    by_cases h0 : D.kd i = 0
    · rw [dV_num h0]
      exact findN0 _ _ _ _ w0 w X hO
    · have h2 := h1 i (List.mem_singleton.2 rfl)
      rcases hV i (List.mem_singleton.2 rfl) with h | ⟨hc, hi⟩
      · exact absurd h h0
      · rw [dV_call h0]
        exact findN1 (D.ad i) (D.ib i) i _ D.src D.inn (D.inr i) w0 w X hO hc hi (by unfold Dat.inr; rw [if_neg h2]; exact hne)
  | .node b l r, w, X, hO, hN, hV, h1 => by
    have hl : ∀ i, i ∈ l.flat → i ∈ (Tr.node b l r).flat := fun i hi => List.mem_append_left _ hi
    have hr : ∀ i, i ∈ r.flat → i ∈ (Tr.node b l r).flat := fun i hi => List.mem_append_right _ hi
    exact findNb D b l r _ w0 w X hO (hN _ _ _ (.here b l r)) (fun b l r h => hN _ _ _ (.left h)) (fun i hi => hV i (hl i hi)) (fun b l r h => hN _ _ _ (.right h)) (fun i hi => hV i (hr i hi))
      (fun w0' w' X' hO' hN' hV' => findN D hne w0' l w' X' hO' hN' hV' (fun i hi => h1 i (hl i hi))) (fun w0' w' X' hO' hN' hV' => findN D hne w0' r w' X' hO' hN' hV' (fun i hi => h1 i (hr i hi)))
theorem findF_leaf (D : Dat) (k : Nat) (hk : D.kd k = 1) (w0 w : World) (X : Nat → Obj → Prop) (hO : Own w0 w [] X) (hV : LeafIn X D k) : Calls Try.prog 17 #[.agg #[dV D (.leaf k), .int .i32 (lV (.leaf k))], .agg #[.int .u32 D.src, .int .u32 D.inn]] w (findFPost D k [] [] w0 X) := by
  have h0 : ¬ D.kd k = 0 := by omega
  rcases hV with h | ⟨hc, hi⟩
  · exact absurd h h0
  have hin : D.inr k = D.inn := if_pos hk
  rw [hin] at hi
  have hne := ident_ne hO hi hc
  have hP := hO.take hc
  rw [dV_call h0]
  refine Calls.mono (findF1 (D.ad k) (D.ib k) k (k : Int) D.src D.inn w0 w _ (hP.conv rfl) ⟨hi, hne⟩) ?_
  rintro e w' ⟨es, rfl, hQ⟩
  refine ⟨es, cod none none, ?_, ?_⟩
  · rw [bfA_cod (A := []) rfl, afB_cod (B := []) rfl]
    rfl
  · refine Own.give (b := D.ad k) (o := .cells (callC (.iface 67 (.pointer (some ⟨es, 0, none⟩))) (k : Int)) 46 (0, 0)) (hQ.conv rfl) ?_
    rintro b o (⟨h1, h2⟩ | ⟨h1, h2⟩ | ⟨t, l, r, h1, h2, h3⟩)
    · exact Or.inl ⟨h1, h2⟩
    · exact Or.inr ⟨h1, h2⟩
    · rw [bfA_cod (A := []) rfl, afB_cod (B := []) rfl] at h1
      rcases h1 with h1 | h1 <;> cases h1
theorem findF (D : Dat) (k : Nat) (hk : D.kd k = 1) (hne : ¬ D.inx = D.inn) : ∀ (t : Tr) (A B : List Nat) (w0 w : World) (X : Nat → Obj → Prop), Own w0 w [] X → NodesIn X D t → (∀ i, i ∈ t.flat → LeafIn X D i) → t.flat = A ++ k :: B → (∀ i, i ∈ A → D.kd i ≠ 1) → Calls Try.prog 17 #[.agg #[dV D t, .int .i32 (lV t)], .agg #[.int .u32 D.src, .int .u32 D.inn]] w (findFPost D k A B w0 X)
  | .leaf i, A, B, w0, w, X, hO, hN, hV, hT, hA => by
    have hT : [i] = A ++ k :: B := hT
    obtain ⟨rfl, rfl, rfl⟩ : A = [] ∧ i = k ∧ B = [] := by
      cases A with
      | nil => injection hT with h1 h2; exact ⟨rfl, h1, h2.symm⟩
      | cons a A => injection hT with h1 h2; exact absurd (congrArg List.length h2) (by simp)
    exact findF_leaf D i hk w0 w X hO (hV i (List.mem_singleton.2 rfl))
  | .node b l r, A, B, w0, w, X, hO, hN, hV, hT, hA => by
    have hl : ∀ i, i ∈ l.flat → i ∈ (Tr.node b l r).flat := fun i hi => List.mem_append_left _ hi
    have hr : ∀ i, i ∈ r.flat → i ∈ (Tr.node b l r).flat := fun i hi => List.mem_append_right _ hi
    have hT : l.flat ++ r.flat = A ++ k :: B := hT
    have hkm : k ∈ (Tr.node b l r).flat := by
      show k ∈ l.flat ++ r.flat
      rw [hT]
      exact List.mem_append_right _ List.mem_cons_self
    have hXk : X (D.ad k) (.cells (callC (.iface 56 (.pointer (some ⟨D.ib k, 0, none⟩))) (k : Int)) 46 (0, 0)) := by
      rcases hV k hkm with h | h
      · omega
      · exact h.1
    have right : ∀ A', A = l.flat ++ A' → r.flat = A' ++ k :: B → Calls Try.prog 17 #[.agg #[dV D (.node b l r), .int .i32 (lV (.node b l r))], .agg #[.int .u32 D.src, .int .u32 D.inn]] w (findFPost D k A B w0 X) := by
      intro A' e1 e2
      subst e1
      exact findFr D k A' B b l r _ w0 w X hO (hN _ _ _ (.here b l r)) (fun b l r h => hN _ _ _ (.left h)) (fun i hi => hV i (hl i hi)) (fun b l r h => hN _ _ _ (.right h)) (fun i hi => hV i (hr i hi)) hXk
        (fun w0' w' X' hO' hN' hV' => findN D hne w0' l w' X' hO' hN' hV' (fun i hi => hA i (List.mem_append_left _ hi))) (fun w0' w' X' hO' hN' hV' => findF D k hk hne r A' B w0' w' X' hO' hN' hV' e2 (fun i hi => hA i (List.mem_append_right _ hi)))
    rcases List.append_eq_append_iff.1 hT with ⟨a', e1, e2⟩ | ⟨c', e1, e2⟩
    · exact right a' e1 e2
    · cases c' with
      | nil => exact right [] (by rw [e1]; simp) (by simpa using e2.symm)
      | cons y c' =>
        injection e2 with e3 e4
        subst e3 e4
        exact findFl D k A c' b l r _ w0 w X hO (hN _ _ _ (.here b l r)) (fun b l r h => hN _ _ _ (.left h)) (fun i hi => hV i (hl i hi)) (fun b l r h => hN _ _ _ (.right h)) (fun i hi => hV i (hr i hi)) hXk
          (fun w0' w' X' hO' hN' hV' => findF D k hk hne l A c' w0' w' X' hO' hN' hV' e1 hA)

end Go.Proofs.Ytdbnnpoffpipjaa.Use
