/- Ownership, more: all the cells of a row at once. No condition. -/
import Derived.Test.YtghofdhhhbbaaaaGreatDoorOwn
namespace Go.Proofs.YtghofdhhhbbaaaaGreatDoor.Own
open Go.RowKit
variable {w0 w w' : World} {L M : List Rw} {X : Nat → Obj → Prop}
theorem Own.k0 (h : Own w0 w L X) (i : Nat) {b : Nat} {t : TypeId} (hi : L[i]? = some (row b t #[])) : b < w.heap.size ∧ (∀ o, w.frozen? ⟨b, o, none⟩ = false) ∧ Base.plainAt w b = true :=
  ⟨h.lt i hi, h.free i hi, h.plain i hi⟩
theorem Own.k1 (h : Own w0 w L X) (i : Nat) {b : Nat} {t : TypeId} {v0 : Value} (hi : L[i]? = some (row b t #[v0])) : w.cell? ⟨b, 0, none⟩ = some v0 ∧ b < w.heap.size ∧ (∀ o, w.frozen? ⟨b, o, none⟩ = false) ∧ Base.plainAt w b = true :=
  ⟨h.cell i hi 0 rfl, h.lt i hi, h.free i hi, h.plain i hi⟩
theorem Own.k2 (h : Own w0 w L X) (i : Nat) {b : Nat} {t : TypeId} {v0 v1 : Value} (hi : L[i]? = some (row b t #[v0, v1])) : w.cell? ⟨b, 0, none⟩ = some v0 ∧ w.cell? ⟨b, 1, none⟩ = some v1 ∧ b < w.heap.size ∧ (∀ o, w.frozen? ⟨b, o, none⟩ = false) ∧ Base.plainAt w b = true :=
  ⟨h.cell i hi 0 rfl, h.cell i hi 1 rfl, h.lt i hi, h.free i hi, h.plain i hi⟩
theorem Own.k3 (h : Own w0 w L X) (i : Nat) {b : Nat} {t : TypeId} {v0 v1 v2 : Value} (hi : L[i]? = some (row b t #[v0, v1, v2])) : w.cell? ⟨b, 0, none⟩ = some v0 ∧ w.cell? ⟨b, 1, none⟩ = some v1 ∧ w.cell? ⟨b, 2, none⟩ = some v2 ∧ b < w.heap.size ∧ (∀ o, w.frozen? ⟨b, o, none⟩ = false) ∧ Base.plainAt w b = true :=
  ⟨h.cell i hi 0 rfl, h.cell i hi 1 rfl, h.cell i hi 2 rfl, h.lt i hi, h.free i hi, h.plain i hi⟩
theorem Own.k4 (h : Own w0 w L X) (i : Nat) {b : Nat} {t : TypeId} {v0 v1 v2 v3 : Value} (hi : L[i]? = some (row b t #[v0, v1, v2, v3])) : w.cell? ⟨b, 0, none⟩ = some v0 ∧ w.cell? ⟨b, 1, none⟩ = some v1 ∧ w.cell? ⟨b, 2, none⟩ = some v2 ∧ w.cell? ⟨b, 3, none⟩ = some v3 ∧ b < w.heap.size ∧ (∀ o, w.frozen? ⟨b, o, none⟩ = false) ∧ Base.plainAt w b = true :=
  ⟨h.cell i hi 0 rfl, h.cell i hi 1 rfl, h.cell i hi 2 rfl, h.cell i hi 3 rfl, h.lt i hi, h.free i hi, h.plain i hi⟩
theorem Own.k5 (h : Own w0 w L X) (i : Nat) {b : Nat} {t : TypeId} {v0 v1 v2 v3 v4 : Value} (hi : L[i]? = some (row b t #[v0, v1, v2, v3, v4])) : w.cell? ⟨b, 0, none⟩ = some v0 ∧ w.cell? ⟨b, 1, none⟩ = some v1 ∧ w.cell? ⟨b, 2, none⟩ = some v2 ∧ w.cell? ⟨b, 3, none⟩ = some v3 ∧ w.cell? ⟨b, 4, none⟩ = some v4 ∧ b < w.heap.size ∧ (∀ o, w.frozen? ⟨b, o, none⟩ = false) ∧ Base.plainAt w b = true :=
  ⟨h.cell i hi 0 rfl, h.cell i hi 1 rfl, h.cell i hi 2 rfl, h.cell i hi 3 rfl, h.cell i hi 4 rfl, h.lt i hi, h.free i hi, h.plain i hi⟩
theorem Own.k6 (h : Own w0 w L X) (i : Nat) {b : Nat} {t : TypeId} {v0 v1 v2 v3 v4 v5 : Value} (hi : L[i]? = some (row b t #[v0, v1, v2, v3, v4, v5])) : w.cell? ⟨b, 0, none⟩ = some v0 ∧ w.cell? ⟨b, 1, none⟩ = some v1 ∧ w.cell? ⟨b, 2, none⟩ = some v2 ∧ w.cell? ⟨b, 3, none⟩ = some v3 ∧ w.cell? ⟨b, 4, none⟩ = some v4 ∧ w.cell? ⟨b, 5, none⟩ = some v5 ∧ b < w.heap.size ∧ (∀ o, w.frozen? ⟨b, o, none⟩ = false) ∧ Base.plainAt w b = true :=
  ⟨h.cell i hi 0 rfl, h.cell i hi 1 rfl, h.cell i hi 2 rfl, h.cell i hi 3 rfl, h.cell i hi 4 rfl, h.cell i hi 5 rfl, h.lt i hi, h.free i hi, h.plain i hi⟩
theorem Own.k7 (h : Own w0 w L X) (i : Nat) {b : Nat} {t : TypeId} {v0 v1 v2 v3 v4 v5 v6 : Value} (hi : L[i]? = some (row b t #[v0, v1, v2, v3, v4, v5, v6])) : w.cell? ⟨b, 0, none⟩ = some v0 ∧ w.cell? ⟨b, 1, none⟩ = some v1 ∧ w.cell? ⟨b, 2, none⟩ = some v2 ∧ w.cell? ⟨b, 3, none⟩ = some v3 ∧ w.cell? ⟨b, 4, none⟩ = some v4 ∧ w.cell? ⟨b, 5, none⟩ = some v5 ∧ w.cell? ⟨b, 6, none⟩ = some v6 ∧ b < w.heap.size ∧ (∀ o, w.frozen? ⟨b, o, none⟩ = false) ∧ Base.plainAt w b = true :=
  ⟨h.cell i hi 0 rfl, h.cell i hi 1 rfl, h.cell i hi 2 rfl, h.cell i hi 3 rfl, h.cell i hi 4 rfl, h.cell i hi 5 rfl, h.cell i hi 6 rfl, h.lt i hi, h.free i hi, h.plain i hi⟩
theorem Own.k8 (h : Own w0 w L X) (i : Nat) {b : Nat} {t : TypeId} {v0 v1 v2 v3 v4 v5 v6 v7 : Value} (hi : L[i]? = some (row b t #[v0, v1, v2, v3, v4, v5, v6, v7])) : w.cell? ⟨b, 0, none⟩ = some v0 ∧ w.cell? ⟨b, 1, none⟩ = some v1 ∧ w.cell? ⟨b, 2, none⟩ = some v2 ∧ w.cell? ⟨b, 3, none⟩ = some v3 ∧ w.cell? ⟨b, 4, none⟩ = some v4 ∧ w.cell? ⟨b, 5, none⟩ = some v5 ∧ w.cell? ⟨b, 6, none⟩ = some v6 ∧ w.cell? ⟨b, 7, none⟩ = some v7 ∧ b < w.heap.size ∧ (∀ o, w.frozen? ⟨b, o, none⟩ = false) ∧ Base.plainAt w b = true :=
  ⟨h.cell i hi 0 rfl, h.cell i hi 1 rfl, h.cell i hi 2 rfl, h.cell i hi 3 rfl, h.cell i hi 4 rfl, h.cell i hi 5 rfl, h.cell i hi 6 rfl, h.cell i hi 7 rfl, h.lt i hi, h.free i hi, h.plain i hi⟩
theorem Own.k9 (h : Own w0 w L X) (i : Nat) {b : Nat} {t : TypeId} {v0 v1 v2 v3 v4 v5 v6 v7 v8 : Value} (hi : L[i]? = some (row b t #[v0, v1, v2, v3, v4, v5, v6, v7, v8])) : w.cell? ⟨b, 0, none⟩ = some v0 ∧ w.cell? ⟨b, 1, none⟩ = some v1 ∧ w.cell? ⟨b, 2, none⟩ = some v2 ∧ w.cell? ⟨b, 3, none⟩ = some v3 ∧ w.cell? ⟨b, 4, none⟩ = some v4 ∧ w.cell? ⟨b, 5, none⟩ = some v5 ∧ w.cell? ⟨b, 6, none⟩ = some v6 ∧ w.cell? ⟨b, 7, none⟩ = some v7 ∧ w.cell? ⟨b, 8, none⟩ = some v8 ∧ b < w.heap.size ∧ (∀ o, w.frozen? ⟨b, o, none⟩ = false) ∧ Base.plainAt w b = true :=
  ⟨h.cell i hi 0 rfl, h.cell i hi 1 rfl, h.cell i hi 2 rfl, h.cell i hi 3 rfl, h.cell i hi 4 rfl, h.cell i hi 5 rfl, h.cell i hi 6 rfl, h.cell i hi 7 rfl, h.cell i hi 8 rfl, h.lt i hi, h.free i hi, h.plain i hi⟩
theorem Own.k10 (h : Own w0 w L X) (i : Nat) {b : Nat} {t : TypeId} {v0 v1 v2 v3 v4 v5 v6 v7 v8 v9 : Value} (hi : L[i]? = some (row b t #[v0, v1, v2, v3, v4, v5, v6, v7, v8, v9])) : w.cell? ⟨b, 0, none⟩ = some v0 ∧ w.cell? ⟨b, 1, none⟩ = some v1 ∧ w.cell? ⟨b, 2, none⟩ = some v2 ∧ w.cell? ⟨b, 3, none⟩ = some v3 ∧ w.cell? ⟨b, 4, none⟩ = some v4 ∧ w.cell? ⟨b, 5, none⟩ = some v5 ∧ w.cell? ⟨b, 6, none⟩ = some v6 ∧ w.cell? ⟨b, 7, none⟩ = some v7 ∧ w.cell? ⟨b, 8, none⟩ = some v8 ∧ w.cell? ⟨b, 9, none⟩ = some v9 ∧ b < w.heap.size ∧ (∀ o, w.frozen? ⟨b, o, none⟩ = false) ∧ Base.plainAt w b = true :=
  ⟨h.cell i hi 0 rfl, h.cell i hi 1 rfl, h.cell i hi 2 rfl, h.cell i hi 3 rfl, h.cell i hi 4 rfl, h.cell i hi 5 rfl, h.cell i hi 6 rfl, h.cell i hi 7 rfl, h.cell i hi 8 rfl, h.cell i hi 9 rfl, h.lt i hi, h.free i hi, h.plain i hi⟩
/-- Each row's place as a number of its own: rows at different places lie in different blocks. -/
theorem Own.ix (h : Own w0 w L X) : ∃ ix : Nat → Nat, (∀ a b : Nat, (ix a == ix b) = false → (a = b) = False) ∧ (∀ (a b o o' : Nat) (s s' : Option Nat), ((⟨a, o, s⟩ : Addr) = ⟨b, o', s'⟩) = (ix a = ix b ∧ a = b ∧ o = o' ∧ s = s')) ∧ ∀ (j : Nat) (b : Nat) (o : Obj), L[j]? = some (b, o) → ix b = j := by
  refine ⟨fun b => (L.map Prod.fst).idxOf b, fun a b hab => eq_false fun e => ?_, fun a b o o' s s' => ?_, fun j b o hj => ?_⟩
  · subst e; simp at hab
  · rw [Addr.mk.injEq]
    exact propext ⟨fun e => ⟨by rw [e.1], e⟩, fun e => e.2⟩
  · have hn : (L.map Prod.fst).Nodup := by
      unfold List.Nodup
      rw [List.pairwise_map]
      exact h.apart
    obtain ⟨hlt, hv⟩ := List.getElem?_eq_some_iff.1 hj
    have hl : j < (L.map Prod.fst).length := by simpa using hlt
    have he : (L.map Prod.fst)[j] = b := by simp [hv]
    show (L.map Prod.fst).idxOf b = j
    rw [← he]
    exact hn.idxOf_getElem j hl
/-- The end of a walk, set aside: no tactic of the walk fits. -/
structure Stay (p : Prop) : Prop where
  out : p
theorem stay {P : Program} {fn : Func} {R : Ending → World → Prop} {x : Exit} {a : Act} {w : World} (h : Stay (bodyPost P fn R x a w)) : bodyPost P fn R x a w := h.out
/-- A cell that was stored to: what was stored, if there is such a cell. (No side condition: the walk reads the elder cell at its own level.) -/
@[go_sem] theorem cell_set_map (w : World) (b o : Nat) (v : Value) : (w.setCell ⟨b, o, none⟩ v).cell? ⟨b, o, none⟩ = (w.cell? ⟨b, o, none⟩).map fun _ => v := by
  cases h : w.cell? ⟨b, o, none⟩ with
  | some u => rw [World.cell?_setCell_same _ _ _ h]; rfl
  | none =>
    unfold World.cell? at h ⊢
    unfold World.setCell
    simp only [Array.getElem?_modify, if_true] at h ⊢
    cases hb : w.heap[b]? with
    | none => simp
    | some x =>
      rw [hb] at h
      cases x <;> simp_all
end Go.Proofs.YtghofdhhhbbaaaaGreatDoor.Own
