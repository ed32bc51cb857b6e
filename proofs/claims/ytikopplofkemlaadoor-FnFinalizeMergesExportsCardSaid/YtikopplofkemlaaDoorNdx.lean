/- Exported declarations told by number: their nodes stand in the frame. No condition. -/
import Derived.Test.YtikopplofkemlaaDoorApf
namespace Go.Proofs.YtikopplofkemlaaDoor.Use
open Go.ChangeShapes Go.WideShapes Go.ChangeAt Go.RowKit Go.Sort Own
set_option linter.unusedVariables false
/-- What the nodes of exported declarations hold where the first k of them are turned; D tells their blocks (0: the declaration, 1: its list, 2: the binding); the i-th one binds symbol i + 1 and stands at place i + 1. -/
def objE (D : Nat → Nat → Nat) (k : Nat) : Nat → Nat → Obj
 | 0, i => .cells (if i < k then #[vS (D 1 i) 1 1, v8 0, bF, bF] else #[vS (D 1 i) 1 1, v8 1, .bool true, bF]) 57 (0, 0)
 | 1, i => .cells #[.iface 134 (.pointer (some ⟨D 2 i, 0, none⟩)), vI ((i : Int) + 1), .nilIface, vI 0] 54 (0, 0)
 | _, i => .cells #[vU 0, vU ((i : Int) + 1)] 136 (0, 0)
def NodX (X : Nat → Obj → Prop) (D : Nat → Nat → Nat) (k m : Nat) : Nat → Obj → Prop := fun b o => X b o ∨ ∃ q i, q < 3 ∧ i < m ∧ b = D q i ∧ o = objE D k q i
def InjD (D : Nat → Nat → Nat) (m : Nat) : Prop := ∀ q i q' i', q < 3 → i < m → q' < 3 → i' < m → D q i = D q' i' → q = q' ∧ i = i'
def SepD (X : Nat → Obj → Prop) (D : Nat → Nat → Nat) (m : Nat) : Prop := ∀ b o, X b o → ∀ q i, q < 3 → i < m → b ≠ D q i
def NodH (X : Nat → Obj → Prop) (D : Nat → Nat → Nat) (k m : Nat) : Nat → Obj → Prop := fun b o => ((NodX X D k m b o ∧ b ≠ D 2 k) ∧ b ≠ D 1 k) ∧ b ≠ D 0 k
theorem objE_raw (D : Nat → Nat → Nat) (k : Nat) : objE D k 0 k = .cells #[vS (D 1 k) 1 1, v8 1, .bool true, bF] 57 (0, 0) := by
 simp only [objE]
 rw [if_neg (Nat.lt_irrefl k)]
theorem objE_raw_0 (D : Nat → Nat → Nat) (k : Nat) : objE D 0 0 k = .cells #[vS (D 1 k) 1 1, v8 1, .bool true, bF] 57 (0, 0) := by
 simp only [objE]
 rw [if_neg (Nat.not_lt_zero k)]
theorem objE_turned (D : Nat → Nat → Nat) (k i : Nat) (h : i < k) : objE D k 0 i = .cells #[vS (D 1 i) 1 1, v8 0, bF, bF] 57 (0, 0) := by
 simp only [objE]
 rw [if_pos h]
theorem objE_other (D : Nat → Nat → Nat) (k q i : Nat) (h : i ≠ k) : objE D (k + 1) q i = objE D k q i := by
 match q with
 | 0 =>
  simp only [objE]
  by_cases e : i < k
  ·rw [if_pos e, if_pos (by omega)]
  ·rw [if_neg e, if_neg (by omega)]
 | 1 => rfl
 | _ + 2 => rfl
section
variable {w0 w w' : World} {L M : List Rw} {X : Nat → Obj → Prop} {D : Nat → Nat → Nat} {k m : Nat}
theorem NodX.take (h : Own w0 w L (NodX X D k m)) (hk : k < m) (hi : InjD D m) :
  Own w0 w (row (D 0 k) 57 #[vS (D 1 k) 1 1, v8 1, .bool true, bF] :: row (D 1 k) 54 #[.iface 134 (.pointer (some ⟨D 2 k, 0, none⟩)), vI ((k : Int) + 1), .nilIface, vI 0] :: row (D 2 k) 136 #[vU 0, vU ((k : Int) + 1)] :: L) (NodH X D k m) := by
 have h2 := h.take (b := D 2 k) (o := objE D k 2 k) (Or.inr ⟨2, k, by omega, hk, rfl, rfl⟩)
 have h1 := h2.take (b := D 1 k) (o := objE D k 1 k) ⟨Or.inr ⟨1, k, by omega, hk, rfl, rfl⟩, fun e => by have := hi 1 k 2 k (by omega) hk (by omega) hk e; omega⟩
 have h0 := h1.take (b := D 0 k) (o := objE D k 0 k) ⟨⟨Or.inr ⟨0, k, by omega, hk, rfl, rfl⟩, fun e => by have := hi 0 k 2 k (by omega) hk (by omega) hk e; omega⟩, fun e => by have := hi 0 k 1 k (by omega) hk (by omega) hk e; omega⟩
 rw [objE_raw] at h0
 exact h0
theorem NodX.give (h : Own w0 w (row (D 0 k) 57 #[vS (D 1 k) 1 1, v8 0, bF, bF] :: row (D 1 k) 54 #[.iface 134 (.pointer (some ⟨D 2 k, 0, none⟩)), vI ((k : Int) + 1), .nilIface, vI 0] :: row (D 2 k) 136 #[vU 0, vU ((k : Int) + 1)] :: L) (NodH X D k m)) (hk : k < m) (hi : InjD D m) (hs : SepD X D m) :
  Own w0 w L (NodX X D (k + 1) m) := by
 have h' : Own w0 w ((D 0 k, objE D (k + 1) 0 k) :: (D 1 k, objE D (k + 1) 1 k) :: (D 2 k, objE D (k + 1) 2 k) :: L) (NodH X D k m) := by
  rw [objE_turned D (k + 1) k (by omega)]
  exact h
 have h1 := h'.give (Y := fun b o => NodH X D k m b o ∨ (b = D 0 k ∧ o = objE D (k + 1) 0 k)) (fun _ _ h => h)
 have h2 := h1.give (Y := fun b o => (NodH X D k m b o ∨ (b = D 0 k ∧ o = objE D (k + 1) 0 k)) ∨ (b = D 1 k ∧ o = objE D (k + 1) 1 k)) (fun _ _ h => h)
 have h3 := h2.give (Y := fun b o => ((NodH X D k m b o ∨ (b = D 0 k ∧ o = objE D (k + 1) 0 k)) ∨ (b = D 1 k ∧ o = objE D (k + 1) 1 k)) ∨ (b = D 2 k ∧ o = objE D (k + 1) 2 k)) (fun _ _ h => h)
 refine h3.weaken ?_
 rintro b o (hx | ⟨q, i, hq, him, hb, ho⟩)
 ·exact Or.inl (Or.inl (Or.inl ⟨⟨⟨Or.inl hx, hs b o hx 2 k (by omega) hk⟩, hs b o hx 1 k (by omega) hk⟩, hs b o hx 0 k (by omega) hk⟩))
 ·by_cases e : i = k
  ·subst e
   match q, hq with
   | 0, _ => exact Or.inl (Or.inl (Or.inr ⟨hb, ho⟩))
   | 1, _ => exact Or.inl (Or.inr ⟨hb, ho⟩)
   | 2, _ => exact Or.inr ⟨hb, ho⟩
  ·have hn : ∀ q', q' < 3 → b ≠ D q' k := fun q' hq' h9 => e (hi q i q' k hq him hq' hk (hb ▸ h9)).2
   exact Or.inl (Or.inl (Or.inl ⟨⟨⟨Or.inr ⟨q, i, hq, him, hb, by rw [ho, objE_other D k q i e]⟩, hn 2 (by omega)⟩, hn 1 (by omega)⟩, hn 0 (by omega)⟩))
theorem NodX.back {is : List Nat} (h : Own w0 w' M (NodX (Own.Rest L is X) D k m)) (hs : SepD (Own.Rest L is X) D m) (hL : L.Pairwise fun r s => r.1 ≠ s.1) (hX : ∀ b o, X b o → ∀ r, r ∈ L → r.1 ≠ b) (js : List Nat) (hn : js.Nodup) (hd : ∀ j, j ∈ js → j ∉ is) : Own w0 w' (M ++ js.filterMap (L[·]?)) (NodX X D k m) := by
 have hb := (h.weaken (Y := Own.Rest L is X) fun b o hx => Or.inl hx).back hL hX js hn hd
 refine ⟨hb.below, hb.rows, hb.apart, fun b o hx => ?_⟩
 rcases hx with hx | ⟨q, i, hq, hi, hbe, ho⟩
 ·exact hb.frame b o hx
 ·have hf := h.frame b o (Or.inr ⟨q, i, hq, hi, hbe, ho⟩)
  refine ⟨hf.1, hf.2.1, fun r hr => ?_⟩
  rcases List.mem_append.1 hr with hm | hm
  ·exact hf.2.2 r hm
  ·obtain ⟨j, hj, he⟩ := List.mem_filterMap.1 hm
   rw [hbe]
   exact hs r.1 r.2 (Or.inr ⟨j, hd j hj, he⟩) q i hq hi
theorem NodX.rest {is : List Nat} : ∀ b o, NodX (Own.Rest L is X) D k m b o → Own.Rest L is (NodX X D k m) b o := by
 rintro b o ((h | h) | h)
 ·exact Or.inl (Or.inl h)
 ·exact Or.inr h
 ·exact Or.inl (Or.inr h)
theorem SepD.rest {is : List Nat} (hs : SepD X D m) (hX : ∀ b o, NodX X D k m b o → ∀ r, r ∈ L → r.1 ≠ b) : SepD (Own.Rest L is X) D m := by
 rintro b o (h | ⟨j, _, hj⟩) q i hq hi
 ·exact hs b o h q i hq hi
 ·exact hX _ _ (Or.inr ⟨q, i, hq, hi, rfl, rfl⟩) _ (List.mem_of_getElem? hj)
end
/-- The nodes of the i-th declaration are a, b, c. -/
def updE (D : Nat → Nat → Nat) (i a b c : Nat) : Nat → Nat → Nat := fun q j => if j = i then (if q = 0 then a else if q = 1 then b else c) else D q j
theorem updE_0 (D : Nat → Nat → Nat) (i a b c : Nat) : updE D i a b c 0 i = a := by simp [updE]
theorem updE_1 (D : Nat → Nat → Nat) (i a b c : Nat) : updE D i a b c 1 i = b := by simp [updE]
theorem updE_2 (D : Nat → Nat → Nat) (i a b c : Nat) : updE D i a b c 2 i = c := by simp [updE]
theorem updE_ne (D : Nat → Nat → Nat) (i a b c q j : Nat) (h : j ≠ i) : updE D i a b c q j = D q j := by simp [updE, h]
theorem objE_upd (D : Nat → Nat → Nat) (i a b c q j : Nat) (h : j ≠ i) : objE (updE D i a b c) 0 q j = objE D 0 q j := by
 match q with
 | 0 => simp only [objE, updE_ne D i a b c _ j h]
 | 1 => simp only [objE, updE_ne D i a b c _ j h]
 | _ + 2 => rfl
theorem NodX.next {w0 w : World} {L : List Rw} {X : Nat → Obj → Prop} {D : Nat → Nat → Nat} {i a b c : Nat} (h : Own w0 w (row a 57 #[vS b 1 1, v8 1, .bool true, bF] :: row b 54 #[vF 134 c, vI ((i : Int) + 1), .nilIface, vI 0] :: row c 136 #[vU 0, vU ((i : Int) + 1)] :: L) (NodX X D 0 i)) (hi : InjD D i) (hs : SepD X D i) :
  Own w0 w L (NodX X (updE D i a b c) 0 (i + 1)) ∧ InjD (updE D i a b c) (i + 1) ∧ SepD X (updE D i a b c) (i + 1) := by
 have hap := h.apart
 have hfr := h.frame
 have hab : a ≠ b := (List.pairwise_cons.1 hap).1 _ List.mem_cons_self
 have hac : a ≠ c := (List.pairwise_cons.1 hap).1 _ (List.mem_cons_of_mem _ List.mem_cons_self)
 have hbc : b ≠ c := (List.pairwise_cons.1 (List.pairwise_cons.1 hap).2).1 _ List.mem_cons_self
 have ho : ∀ q j, q < 3 → j < i → a ≠ D q j ∧ b ≠ D q j ∧ c ≠ D q j := fun q j hq hj =>
  have f := hfr (D q j) _ (Or.inr ⟨q, j, hq, hj, rfl, rfl⟩)
  ⟨f.2.2 _ List.mem_cons_self, f.2.2 _ (List.mem_cons_of_mem _ List.mem_cons_self), f.2.2 _ (List.mem_cons_of_mem _ (List.mem_cons_of_mem _ List.mem_cons_self))⟩
 have hx : ∀ b' o', X b' o' → a ≠ b' ∧ b ≠ b' ∧ c ≠ b' := fun b' o' h9 =>
  have f := hfr b' o' (Or.inl h9)
  ⟨f.2.2 _ List.mem_cons_self, f.2.2 _ (List.mem_cons_of_mem _ List.mem_cons_self), f.2.2 _ (List.mem_cons_of_mem _ (List.mem_cons_of_mem _ List.mem_cons_self))⟩
 have hq3 : ∀ q, q < 3 → q = 0 ∨ q = 1 ∨ q = 2 := fun q h => by omega
 refine ⟨?_, ?_, ?_⟩
 ·have e0 : objE (updE D i a b c) 0 0 i = .cells #[vS b 1 1, v8 1, .bool true, bF] 57 (0, 0) := by rw [objE_raw_0, updE_1]
  have e1 : objE (updE D i a b c) 0 1 i = .cells #[vF 134 c, vI ((i : Int) + 1), .nilIface, vI 0] 54 (0, 0) := by simp only [objE, updE_2]
  have e2 : objE (updE D i a b c) 0 2 i = .cells #[vU 0, vU ((i : Int) + 1)] 136 (0, 0) := rfl
  have h1 := Own.give (b := a) (o := objE (updE D i a b c) 0 0 i) (Y := fun b' o' => NodX X D 0 i b' o' ∨ (b' = a ∧ o' = objE (updE D i a b c) 0 0 i)) (by rw [e0]; exact h) (fun _ _ h => h)
  have h2 := Own.give (b := b) (o := objE (updE D i a b c) 0 1 i) (Y := fun b' o' => (NodX X D 0 i b' o' ∨ (b' = a ∧ o' = objE (updE D i a b c) 0 0 i)) ∨ (b' = b ∧ o' = objE (updE D i a b c) 0 1 i)) (by rw [e1]; exact h1) (fun _ _ h => h)
  have h3 := Own.give (b := c) (o := objE (updE D i a b c) 0 2 i) (Y := fun b' o' => ((NodX X D 0 i b' o' ∨ (b' = a ∧ o' = objE (updE D i a b c) 0 0 i)) ∨ (b' = b ∧ o' = objE (updE D i a b c) 0 1 i)) ∨ (b' = c ∧ o' = objE (updE D i a b c) 0 2 i)) (by rw [e2]; exact h2) (fun _ _ h => h)
  refine h3.weaken ?_
  rintro b' o' (h9 | ⟨q, j, hq, hj, hb, ho'⟩)
  ·exact Or.inl (Or.inl (Or.inl (Or.inl h9)))
  ·by_cases e : j = i
   ·subst e
    rcases hq3 q hq with rfl | rfl | rfl
    ·exact Or.inl (Or.inl (Or.inr ⟨by rw [hb, updE_0], ho'⟩))
    ·exact Or.inl (Or.inr ⟨by rw [hb, updE_1], ho'⟩)
    ·exact Or.inr ⟨by rw [hb, updE_2], ho'⟩
   ·exact Or.inl (Or.inl (Or.inl (Or.inr ⟨q, j, hq, by omega, by rw [hb, updE_ne D i a b c q j e], by rw [ho', objE_upd D i a b c q j e]⟩)))
 ·intro q j q' j' hq hj hq' hj' e
  by_cases e1 : j = i
  ·subst e1
   by_cases e2 : j' = j
   ·subst e2
    rcases hq3 q hq with rfl | rfl | rfl <;> rcases hq3 q' hq' with rfl | rfl | rfl <;> simp only [updE_0, updE_1, updE_2] at e <;> first | exact ⟨rfl, rfl⟩ | exact absurd e hab | exact absurd e hac | exact absurd e hbc | exact absurd e.symm hab | exact absurd e.symm hac | exact absurd e.symm hbc
   ·rw [updE_ne D j a b c q' j' e2] at e
    have h9 := ho q' j' hq' (by omega)
    rcases hq3 q hq with rfl | rfl | rfl <;> simp only [updE_0, updE_1, updE_2] at e
    ·exact absurd e h9.1
    ·exact absurd e h9.2.1
    ·exact absurd e h9.2.2
  ·rw [updE_ne D i a b c q j e1] at e
   by_cases e2 : j' = i
   ·subst e2
    have h9 := ho q j hq (by omega)
    rcases hq3 q' hq' with rfl | rfl | rfl <;> simp only [updE_0, updE_1, updE_2] at e
    ·exact absurd e.symm h9.1
    ·exact absurd e.symm h9.2.1
    ·exact absurd e.symm h9.2.2
   ·rw [updE_ne D i a b c q' j' e2] at e
    exact hi q j q' j' hq (by omega) hq' (by omega) e
 ·intro b' o' h9 q j hq hj
  by_cases e1 : j = i
  ·subst e1
   have h8 := hx b' o' h9
   rcases hq3 q hq with rfl | rfl | rfl
   ·rw [updE_0]; exact h8.1.symm
   ·rw [updE_1]; exact h8.2.1.symm
   ·rw [updE_2]; exact h8.2.2.symm
  ·rw [updE_ne D i a b c q j e1]
   exact hs b' o' h9 q j hq (by omega)
/-- The clause items of the first declarations. -/
def exC (z : Nat → ByteArray) (i : Nat) : List Value := [.string (z i), .string ⟨#[]⟩, vI ((i : Int) + 1), vI ((i : Int) + 1), vU 0, vU ((i : Int) + 1)]
theorem exC_len (z : Nat → ByteArray) (i : Nat) : (exC z i).length = 6 := rfl
def lcE (i : Nat) : Int := (i : Int) + 1

end Go.Proofs.YtikopplofkemlaaDoor.Use
