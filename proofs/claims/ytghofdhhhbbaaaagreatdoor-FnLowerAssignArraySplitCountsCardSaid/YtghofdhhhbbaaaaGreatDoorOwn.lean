/- Ownership: a list of blocks known whole, all of them younger than the call began, all apart, beside a frame; and the region that draws its order, told by a family of such blocks. No condition. -/
import Derived.Test.YtghofdhhhbbaaaaGreatDoorRega
import Derived.Test.YtghofdhhhbbaaaaGreatDoorMaps
namespace Go.Proofs.YtghofdhhhbbaaaaGreatDoor.Own
open Go.RowKit

abbrev Rw := Nat × Obj
/-- A row of cells. -/
abbrev row (b : Nat) (t : TypeId) (c : Array Value) : Rw := (b, .cells c t (0, 0))
/-- In the world w the blocks of L hold what L says; they are apart; below the heap that w0 had nothing has turned; the blocks of X (a frame that is not looked at) hold what X says. -/
structure Own (w0 w : World) (L : List Rw) (X : Nat → Obj → Prop) : Prop where
  below : Below w0.heap.size w0 w
  rows : ∀ r, r ∈ L → w0.heap.size ≤ r.1 ∧ w.heap[r.1]? = some r.2
  apart : L.Pairwise fun r s => r.1 ≠ s.1
  frame : ∀ b o, X b o → w0.heap.size ≤ b ∧ w.heap[b]? = some o ∧ ∀ r, r ∈ L → r.1 ≠ b

section
variable {w0 w w' : World} {L M : List Rw} {X : Nat → Obj → Prop}
theorem Own.start (w : World) : Own w w [] (fun _ _ => False) := ⟨Below.refl _ _, by simp, List.Pairwise.nil, by simp⟩
theorem Own.get (h : Own w0 w L X) (i : Nat) {b : Nat} {o : Obj} (hi : L[i]? = some (b, o)) : w.heap[b]? = some o := (h.rows _ (List.mem_of_getElem? hi)).2
theorem Own.lo (h : Own w0 w L X) (i : Nat) {b : Nat} {o : Obj} (hi : L[i]? = some (b, o)) : w0.heap.size ≤ b := (h.rows _ (List.mem_of_getElem? hi)).1
theorem Own.lt (h : Own w0 w L X) (i : Nat) {b : Nat} {o : Obj} (hi : L[i]? = some (b, o)) : b < w.heap.size := (Array.getElem?_eq_some_iff.1 (h.get i hi)).1
theorem Own.rowAt (h : Own w0 w L X) (i : Nat) {b : Nat} {t : TypeId} {c : Array Value} (hi : L[i]? = some (row b t c)) : Base.RowAt w b t c := h.get i hi
theorem Own.mapAt (h : Own w0 w L X) (i : Nat) {b : Nat} {es : Array MapEntry} {k : Nat} (hi : L[i]? = some (b, .map es k)) : Base.MapAt w b es k := h.get i hi
theorem Own.cell (h : Own w0 w L X) (i : Nat) {b : Nat} {t : TypeId} {c : Array Value} (hi : L[i]? = some (row b t c)) (j : Nat) {v : Value} (hv : c[j]? = some v) : w.cell? ⟨b, j, none⟩ = some v := (h.rowAt i hi).cell hv
theorem Own.free (h : Own w0 w L X) (i : Nat) {b : Nat} {t : TypeId} {c : Array Value} (hi : L[i]? = some (row b t c)) (j : Nat) : w.frozen? ⟨b, j, none⟩ = false := (h.rowAt i hi).free j
theorem Own.plain (h : Own w0 w L X) (i : Nat) {b : Nat} {t : TypeId} {c : Array Value} (hi : L[i]? = some (row b t c)) : Base.plainAt w b = true := (h.rowAt i hi).plain
theorem pairwise_ne {L : List Rw} (h : L.Pairwise fun r s => r.1 ≠ s.1) {i j : Nat} {r s : Rw} (hi : L[i]? = some r) (hj : L[j]? = some s) (hij : i ≠ j) : r.1 ≠ s.1 := by
  obtain ⟨h1, h2⟩ := List.getElem?_eq_some_iff.1 hi
  obtain ⟨h3, h4⟩ := List.getElem?_eq_some_iff.1 hj
  have hp := List.pairwise_iff_getElem.1 h
  rcases Nat.lt_or_gt_of_ne hij with hl | hl
  · rw [← h2, ← h4]; exact hp i j h1 h3 hl
  · rw [← h2, ← h4]; exact (hp j i h3 h1 hl).symm
theorem Own.ne (h : Own w0 w L X) (i j : Nat) {b b' : Nat} {o o' : Obj} (hi : L[i]? = some (b, o)) (hj : L[j]? = some (b', o')) (hij : i ≠ j) : b ≠ b' := pairwise_ne h.apart hi hj hij
theorem Own.conv (h : Own w0 w L X) (e : L = M) : Own w0 w M X := e ▸ h
theorem Own.drew (h : Own w0 w L X) : Own w0 w.drew L X := ⟨h.below.drew, h.rows, h.apart, h.frame⟩
theorem Own.step (h : Own w0 w L X) (hb : Below w.heap.size w w') : Own w0 w' L X := by
  refine ⟨h.below.trans (hb.mono h.below.size), fun r hr => ?_, h.apart, fun b o hx => ?_⟩
  · have h1 := h.rows r hr
    exact ⟨h1.1, by rw [hb.block _ (Array.getElem?_eq_some_iff.1 h1.2).1]; exact h1.2⟩
  · have h1 := h.frame b o hx
    exact ⟨h1.1, by rw [hb.block _ (Array.getElem?_eq_some_iff.1 h1.2.1).1]; exact h1.2.1, h1.2.2⟩
theorem Own.alloc (h : Own w0 w L X) (o : Obj) : Own w0 (w.alloc o) ((w.heap.size, o) :: L) X := by
  have hs := h.step (w' := w.alloc o) ((Below.refl _ _).alloc (Nat.le_refl _) o)
  refine ⟨hs.below, ?_, ?_, ?_⟩
  · intro r hr
    rcases List.mem_cons.1 hr with rfl | hr
    · exact ⟨h.below.size, (MapKept.heap_alloc w _).1⟩
    · exact hs.rows r hr
  · refine List.pairwise_cons.2 ⟨fun r hr => ?_, h.apart⟩
    have := (Array.getElem?_eq_some_iff.1 (h.rows r hr).2).1
    show w.heap.size ≠ r.1
    omega
  · intro b o' hx
    refine ⟨(hs.frame b o' hx).1, (hs.frame b o' hx).2.1, fun r hr => ?_⟩
    rcases List.mem_cons.1 hr with rfl | hr
    · have := (Array.getElem?_eq_some_iff.1 (h.frame b o' hx).2.1).1
      show w.heap.size ≠ b
      omega
    · exact (hs.frame b o' hx).2.2 r hr
theorem Own.alloc' (h : Own w0 w L X) (o : Obj) (n : Nat) (hn : n = w.heap.size) : Own w0 (w.alloc o) ((n, o) :: L) X := by subst hn; exact h.alloc o
theorem get_set {c : Array Value} {i : Nat} {u : Value} (h : c[i]? = some u) (v : Value) : (c.setIfInBounds i v)[i]? = some v := by
  obtain ⟨h1, _⟩ := Array.getElem?_eq_some_iff.1 h
  simp [h1]
theorem get_other {c : Array Value} {i j : Nat} {u : Value} (h : c[i]? = some u) (hij : j ≠ i) (v : Value) : (c.setIfInBounds j v)[i]? = some u := by
  rw [Array.getElem?_setIfInBounds, if_neg hij]; exact h
/-- Rows that a call has made. -/
theorem Own.born (h : Own w0 w L X) (hb : Below w.heap.size w w') (R : List Rw) (hR : ∀ r, r ∈ R → w.heap.size ≤ r.1 ∧ w'.heap[r.1]? = some r.2) (hp : R.Pairwise fun r s => r.1 ≠ s.1) : Own w0 w' (R ++ L) X := by
  have hs := h.step hb
  refine ⟨hs.below, fun r hr => ?_, List.pairwise_append.2 ⟨hp, h.apart, fun r hr s hs' => ?_⟩, fun b o hx => ⟨(hs.frame b o hx).1, (hs.frame b o hx).2.1, fun r hr => ?_⟩⟩
  · rcases List.mem_append.1 hr with hr | hr
    · exact ⟨Nat.le_trans h.below.size (hR r hr).1, (hR r hr).2⟩
    · exact hs.rows r hr
  · have h1 := (hR r hr).1
    have h2 := (Array.getElem?_eq_some_iff.1 (h.rows s hs').2).1
    omega
  · rcases List.mem_append.1 hr with hr | hr
    · have h1 := (hR r hr).1
      have h2 := (Array.getElem?_eq_some_iff.1 (h.frame b o hx).2.1).1
      omega
    · exact (hs.frame b o hx).2.2 r hr
/-- One row holds something else; what was apart is as it was. -/
theorem Own.turn (h : Own w0 w L X) (i : Nat) {b : Nat} {o o' : Obj} (hi : L[i]? = some (b, o)) (hs : w.heap.size ≤ w'.heap.size) (ho : w'.os = w.os) (ht : w'.tape = w.tape) (hp : w'.output = w.output)
    (hb : w'.heap[b]? = some o') (hn : ∀ k, k ≠ b → k < w.heap.size → w'.heap[k]? = w.heap[k]?) : Own w0 w' (L.set i (b, o')) X := by
  have hlo := h.lo i hi
  have hil := (List.getElem?_eq_some_iff.1 hi).1
  have hother : ∀ j r, j ≠ i → L[j]? = some r → r.1 ≠ b := fun j r hj hr => pairwise_ne h.apart hr hi hj
  refine ⟨⟨ho.trans h.below.os, ht.trans h.below.tape, hp.trans h.below.output, Nat.le_trans h.below.size hs, fun k hk => ?_⟩, ?_, ?_, ?_⟩
  · rw [hn k (by omega) (Nat.lt_of_lt_of_le hk h.below.size)]; exact h.below.block k hk
  · intro r hr
    obtain ⟨j, hj⟩ := List.getElem?_of_mem hr
    rw [List.getElem?_set] at hj
    split at hj
    · cases hj; exact ⟨hlo, hb⟩
    · rename_i hne
      have h1 := h.rows r (List.mem_of_getElem? hj)
      exact ⟨h1.1, by rw [hn _ (hother j r (fun e => hne e.symm) hj) (Array.getElem?_eq_some_iff.1 h1.2).1]; exact h1.2⟩
  · rw [List.pairwise_iff_getElem]
    intro a c ha hc hac
    rw [List.length_set] at ha hc
    have hp := List.pairwise_iff_getElem.1 h.apart a c ha hc hac
    have e : L[i] = (b, o) := (List.getElem?_eq_some_iff.1 hi).2
    rw [List.getElem_set, List.getElem_set]
    split
    · rename_i ea
      subst ea
      rw [e] at hp
      split
      · omega
      · exact hp
    · split
      · rename_i ec
        subst ec
        rw [e] at hp
        exact hp
      · exact hp
  · intro k o2 hx
    have h1 := h.frame k o2 hx
    refine ⟨h1.1, ?_, ?_⟩
    · rw [hn k (fun e => (h1.2.2 _ (List.mem_of_getElem? hi)) e.symm) (Array.getElem?_eq_some_iff.1 h1.2.1).1]; exact h1.2.1
    · intro r hr
      obtain ⟨j, hj⟩ := List.getElem?_of_mem hr
      rw [List.getElem?_set] at hj
      split at hj
      · cases hj; exact h1.2.2 (b, o) (List.mem_of_getElem? hi)
      · exact h1.2.2 r (List.mem_of_getElem? hj)
theorem Own.set (h : Own w0 w L X) (i : Nat) {b : Nat} {t : TypeId} {c : Array Value} (hi : L[i]? = some (row b t c)) (j : Nat) (v : Value) : Own w0 (w.setCell ⟨b, j, none⟩ v) (L.set i (row b t (c.setIfInBounds j v))) X :=
  h.turn i hi (by simp [World.setCell]) rfl rfl rfl ((h.rowAt i hi).set j v) (fun k hk _ => Below.heap_setCell _ _ _ _ hk)
theorem Own.setMap (h : Own w0 w L X) (i : Nat) {b : Nat} {es : Array MapEntry} {k : Nat} (hi : L[i]? = some (b, .map es k)) (es' : Array MapEntry) (k' : Nat) : Own w0 (Base.setMap w b es' k') (L.set i (b, .map es' k')) X := by
  refine h.turn i hi (by simp [Base.setMap]) rfl rfl rfl ((h.mapAt i hi).set es' k') (fun q hq _ => ?_)
  show (w.heap.setIfInBounds b _)[q]? = _
  rw [Array.getElem?_setIfInBounds, if_neg (fun e => hq e.symm)]

/-- What is left of L beside the places of is: a part of the frame while a call runs. -/
def Rest (L : List Rw) (is : List Nat) (X : Nat → Obj → Prop) : Nat → Obj → Prop := fun b o => X b o ∨ ∃ i, i ∉ is ∧ L[i]? = some (b, o)
theorem mem_pick {L : List Rw} {is : List Nat} {r : Rw} : r ∈ is.filterMap (L[·]?) ↔ ∃ i, i ∈ is ∧ L[i]? = some r := by simp [List.mem_filterMap]
theorem pick_apart {L : List Rw} (h : L.Pairwise fun r s => r.1 ≠ s.1) {is : List Nat} (hn : is.Nodup) : (is.filterMap (L[·]?)).Pairwise fun r s => r.1 ≠ s.1 := by
  rw [List.pairwise_filterMap]
  exact hn.imp fun {i j} hij r hr s hs => pairwise_ne h (by simpa using hr) (by simpa using hs) hij
/-- A call takes the rows at the places of is; the others stand aside. -/
theorem Own.pick (h : Own w0 w L X) (is : List Nat) (hn : is.Nodup) : Own w0 w (is.filterMap (L[·]?)) (Rest L is X) := by
  refine ⟨h.below, fun r hr => ?_, pick_apart h.apart hn, fun b o hx => ?_⟩
  · obtain ⟨i, -, hi⟩ := mem_pick.1 hr
    exact h.rows r (List.mem_of_getElem? hi)
  · rcases hx with hx | ⟨i, hi, he⟩
    · refine ⟨(h.frame b o hx).1, (h.frame b o hx).2.1, fun r hr => ?_⟩
      obtain ⟨j, -, hj⟩ := mem_pick.1 hr
      exact (h.frame b o hx).2.2 r (List.mem_of_getElem? hj)
    · have h1 := h.rows _ (List.mem_of_getElem? he)
      refine ⟨h1.1, h1.2, fun r hr => ?_⟩
      obtain ⟨j, hjm, hj⟩ := mem_pick.1 hr
      exact pairwise_ne h.apart hj he (fun e => hi (e ▸ hjm))
/-- Behind the call the rows that stood aside come back. -/
theorem Own.back {is : List Nat} (h : Own w0 w' M (Rest L is X)) (hL : L.Pairwise fun r s => r.1 ≠ s.1) (hX : ∀ b o, X b o → ∀ r, r ∈ L → r.1 ≠ b) (js : List Nat) (hn : js.Nodup) (hd : ∀ j, j ∈ js → j ∉ is) : Own w0 w' (M ++ js.filterMap (L[·]?)) X := by
  refine ⟨h.below, fun r hr => ?_, ?_, fun b o hx => ?_⟩
  · rcases List.mem_append.1 hr with hr | hr
    · exact h.rows r hr
    · obtain ⟨j, hj, he⟩ := mem_pick.1 hr
      have := h.frame r.1 r.2 (Or.inr ⟨j, hd j hj, he⟩)
      exact ⟨this.1, this.2.1⟩
  · refine List.pairwise_append.2 ⟨h.apart, pick_apart hL hn, fun r hr s hs => ?_⟩
    obtain ⟨j, hj, he⟩ := mem_pick.1 hs
    exact (h.frame s.1 s.2 (Or.inr ⟨j, hd j hj, he⟩)).2.2 r hr
  · have h1 := h.frame b o (Or.inl hx)
    refine ⟨h1.1, h1.2.1, fun r hr => ?_⟩
    rcases List.mem_append.1 hr with hr | hr
    · exact h1.2.2 r hr
    · obtain ⟨j, hj, he⟩ := mem_pick.1 hr
      exact hX b o hx r (List.mem_of_getElem? he)
/-- Rows are let go, or taken in another order. -/
theorem Own.sub (h : Own w0 w L X) (is : List Nat) (hn : is.Nodup) : Own w0 w (is.filterMap (L[·]?)) X := by
  have h1 := h.pick is hn
  exact ⟨h1.below, h1.rows, h1.apart, fun b o hx => h1.frame b o (Or.inl hx)⟩
theorem Own.apartX (h : Own w0 w L X) : ∀ b o, X b o → ∀ r, r ∈ L → r.1 ≠ b := fun b o hx => (h.frame b o hx).2.2
end

/-! ### Families of rows, for a region that draws its order -/
structure OwnF (w0 w : World) (I : Nat → Prop) (ρ : Nat → Rw) (X : Nat → Obj → Prop) : Prop where
  below : Below w0.heap.size w0 w
  rows : ∀ i, I i → w0.heap.size ≤ (ρ i).1 ∧ w.heap[(ρ i).1]? = some (ρ i).2
  apart : ∀ i j, I i → I j → i ≠ j → (ρ i).1 ≠ (ρ j).1
  frame : ∀ b o, X b o → w0.heap.size ≤ b ∧ w.heap[b]? = some o ∧ ∀ i, I i → (ρ i).1 ≠ b
section
variable {w0 w w' : World} {I I' : Nat → Prop} {ρ ρ' : Nat → Rw} {X : Nat → Obj → Prop}
theorem OwnF.rowAt (h : OwnF w0 w I ρ X) (i : Nat) (hi : I i) {b : Nat} {t : TypeId} {c : Array Value} (e : ρ i = row b t c) : Base.RowAt w b t c := by
  have := (h.rows i hi).2
  rw [e] at this
  exact this
theorem OwnF.mapAt (h : OwnF w0 w I ρ X) (i : Nat) (hi : I i) {b : Nat} {es : Array MapEntry} {k : Nat} (e : ρ i = (b, .map es k)) : Base.MapAt w b es k := by
  have := (h.rows i hi).2
  rw [e] at this
  exact this
theorem OwnF.drew (h : OwnF w0 w I ρ X) : OwnF w0 w.drew I ρ X := ⟨h.below.drew, h.rows, h.apart, h.frame⟩
theorem OwnF.congr (h : OwnF w0 w I ρ X) (hI : ∀ i, I' i → I i) (hρ : ∀ i, I' i → ρ' i = ρ i) : OwnF w0 w I' ρ' X := by
  refine ⟨h.below, fun i hi => ?_, fun i j hi hj hij => ?_, fun b o hx => ⟨(h.frame b o hx).1, (h.frame b o hx).2.1, fun i hi => ?_⟩⟩
  · rw [hρ i hi]; exact h.rows i (hI i hi)
  · rw [hρ i hi, hρ j hj]; exact h.apart i j (hI i hi) (hI j hj) hij
  · rw [hρ i hi]; exact (h.frame b o hx).2.2 i (hI i hi)
/-- A list of rows as a family, by their places. -/
theorem Own.family {L : List Rw} (h : Own w0 w L X) (hI : ∀ i, I i → L[i / 1000]? = some (ρ i)) (hp : ∀ i j, I i → I j → i ≠ j → i / 1000 ≠ j / 1000) : OwnF w0 w I ρ X :=
  ⟨h.below, fun i hi => h.rows _ (List.mem_of_getElem? (hI i hi)), fun i j hi hj hij => pairwise_ne h.apart (hI i hi) (hI j hj) (hp i j hi hj hij),
    fun b o hx => ⟨(h.frame b o hx).1, (h.frame b o hx).2.1, fun i hi => (h.frame b o hx).2.2 _ (List.mem_of_getElem? (hI i hi))⟩⟩
/-- A part of a family as a list; the others stand aside. -/
theorem OwnF.pick (h : OwnF w0 w I ρ X) (is : List Nat) (hn : is.Nodup) (hi : ∀ i, i ∈ is → I i) : Own w0 w (is.map ρ) (fun b o => X b o ∨ ∃ i, I i ∧ i ∉ is ∧ ρ i = (b, o)) := by
  refine ⟨h.below, fun r hr => ?_, ?_, fun b o hx => ?_⟩
  · obtain ⟨i, hm, rfl⟩ := List.mem_map.1 hr
    exact h.rows i (hi i hm)
  · rw [List.pairwise_map]
    rw [List.pairwise_iff_getElem]
    intro a c ha hc hac
    exact h.apart _ _ (hi _ (List.getElem_mem ha)) (hi _ (List.getElem_mem hc)) (List.pairwise_iff_getElem.1 hn a c ha hc hac)
  · rcases hx with hx | ⟨i, hI, hni, he⟩
    · refine ⟨(h.frame b o hx).1, (h.frame b o hx).2.1, fun r hr => ?_⟩
      obtain ⟨i, hm, rfl⟩ := List.mem_map.1 hr
      exact (h.frame b o hx).2.2 i (hi i hm)
    · have h1 := h.rows i hI
      rw [he] at h1
      refine ⟨h1.1, h1.2, fun r hr => ?_⟩
      obtain ⟨j, hm, rfl⟩ := List.mem_map.1 hr
      have := h.apart j i (hi j hm) hI (fun e => hni (e ▸ hm))
      rw [he] at this
      exact this
/-- The family's rows as a list, the frame as it was. -/
theorem OwnF.list (h : OwnF w0 w I ρ X) (is : List Nat) (hn : is.Nodup) (hi : ∀ i, i ∈ is → I i) : Own w0 w (is.map ρ) X := by
  have h1 := h.pick is hn hi
  exact ⟨h1.below, h1.rows, h1.apart, fun b o hx => h1.frame b o (Or.inl hx)⟩
/-- Behind a call: the rows that it gave back and those that stood aside are a family again. -/
theorem Own.join {M : List Rw} {is : List Nat} (h : Own w0 w' M (fun b o => X b o ∨ ∃ i, I i ∧ i ∉ is ∧ ρ i = (b, o))) (h0 : OwnF w0 w I ρ X) (js : List Nat) (hM : js.map ρ' = M)
    (hI : ∀ i, I' i → i ∈ js ∨ (I i ∧ i ∉ is ∧ ρ' i = ρ i)) : OwnF w0 w' I' ρ' X := by
  have hmem : ∀ i, i ∈ js → ρ' i ∈ M := fun i hi => by rw [← hM]; exact List.mem_map_of_mem hi
  refine ⟨h.below, fun i hi => ?_, fun i j hi hj hij => ?_, fun b o hx => ⟨(h.frame b o (Or.inl hx)).1, (h.frame b o (Or.inl hx)).2.1, fun i hi => ?_⟩⟩
  · rcases hI i hi with hm | ⟨h1, h2, h3⟩
    · exact h.rows _ (hmem i hm)
    · have := h.frame (ρ i).1 (ρ i).2 (Or.inr ⟨i, h1, h2, rfl⟩)
      rw [h3]
      exact ⟨this.1, this.2.1⟩
  · rcases hI i hi with hm | ⟨h1, h2, h3⟩
    · rcases hI j hj with km | ⟨k1, k2, k3⟩
      · obtain ⟨a, ha⟩ := List.getElem?_of_mem hm
        obtain ⟨c, hc⟩ := List.getElem?_of_mem km
        refine pairwise_ne h.apart (i := a) (j := c) ?_ ?_ (fun e => hij ?_)
        · rw [← hM, List.getElem?_map, ha]; rfl
        · rw [← hM, List.getElem?_map, hc]; rfl
        · subst e; exact Option.some.inj (ha.symm.trans hc)
      · rw [k3]
        exact (h.frame (ρ j).1 (ρ j).2 (Or.inr ⟨j, k1, k2, rfl⟩)).2.2 _ (hmem i hm)
    · rcases hI j hj with km | ⟨k1, k2, k3⟩
      · rw [h3]
        exact ((h.frame (ρ i).1 (ρ i).2 (Or.inr ⟨i, h1, h2, rfl⟩)).2.2 _ (hmem j km)).symm
      · rw [h3, k3]
        exact h0.apart i j h1 k1 hij
  · rcases hI i hi with hm | ⟨h1, h2, h3⟩
    · exact (h.frame b o (Or.inl hx)).2.2 _ (hmem i hm)
    · rw [h3]
      exact (h0.frame b o hx).2.2 i h1
theorem OwnF.step (h : OwnF w0 w I ρ X) (hb : Below w.heap.size w w') : OwnF w0 w' I ρ X := by
  refine ⟨h.below.trans (hb.mono h.below.size), fun i hi => ?_, h.apart, fun b o hx => ?_⟩
  · have h1 := h.rows i hi
    exact ⟨h1.1, by rw [hb.block _ (Array.getElem?_eq_some_iff.1 h1.2).1]; exact h1.2⟩
  · have h1 := h.frame b o hx
    exact ⟨h1.1, by rw [hb.block _ (Array.getElem?_eq_some_iff.1 h1.2.1).1]; exact h1.2.1, h1.2.2⟩
/-- A new block, at place k. -/
theorem OwnF.alloc (h : OwnF w0 w I ρ X) (o : Obj) (k : Nat) (hk : ρ' k = (w.heap.size, o)) (hI : ∀ i, I' i → i = k ∨ (I i ∧ ρ' i = ρ i)) : OwnF w0 (w.alloc o) I' ρ' X := by
  have hs := h.step (w' := w.alloc o) ((Below.refl _ _).alloc (Nat.le_refl _) o)
  have hlt : ∀ i, I i → (ρ i).1 < w.heap.size := fun i hi => (Array.getElem?_eq_some_iff.1 (h.rows i hi).2).1
  refine ⟨hs.below, fun i hi => ?_, fun i j hi hj hij => ?_, fun b o' hx => ⟨(hs.frame b o' hx).1, (hs.frame b o' hx).2.1, fun i hi => ?_⟩⟩
  · rcases hI i hi with rfl | ⟨h1, h2⟩
    · rw [hk]; exact ⟨h.below.size, (MapKept.heap_alloc w _).1⟩
    · rw [h2]; exact hs.rows i h1
  · rcases hI i hi with rfl | ⟨h1, h2⟩
    · rcases hI j hj with rfl | ⟨k1, k2⟩
      · exact absurd rfl hij
      · rw [hk, k2]; have := hlt j k1; show w.heap.size ≠ _; omega
    · rcases hI j hj with rfl | ⟨k1, k2⟩
      · rw [hk, h2]; have := hlt i h1; show _ ≠ w.heap.size; omega
      · rw [h2, k2]; exact h.apart i j h1 k1 hij
  · rcases hI i hi with rfl | ⟨h1, h2⟩
    · rw [hk]
      have := (Array.getElem?_eq_some_iff.1 (h.frame b o' hx).2.1).1
      show w.heap.size ≠ b
      omega
    · rw [h2]; exact (hs.frame b o' hx).2.2 i h1
/-- One place holds something else. -/
theorem OwnF.turn (h : OwnF w0 w I ρ X) (k : Nat) (hk : I k) {b : Nat} {o o' : Obj} (e : ρ k = (b, o)) (e' : ρ' k = (b, o')) (hI : ∀ i, I' i → I i ∧ (i = k ∨ ρ' i = ρ i)) (hs : w.heap.size ≤ w'.heap.size) (ho : w'.os = w.os) (ht : w'.tape = w.tape) (hp : w'.output = w.output)
    (hb : w'.heap[b]? = some o') (hn : ∀ q, q ≠ b → q < w.heap.size → w'.heap[q]? = w.heap[q]?) : OwnF w0 w' I' ρ' X := by
  have hlo : w0.heap.size ≤ b := by have := (h.rows k hk).1; rw [e] at this; exact this
  have hne : ∀ i, I i → i ≠ k → (ρ i).1 ≠ b := fun i hi hik => by have := h.apart i k hi hk hik; rw [e] at this; exact this
  refine ⟨⟨ho.trans h.below.os, ht.trans h.below.tape, hp.trans h.below.output, Nat.le_trans h.below.size hs, fun q hq => ?_⟩, fun i hi => ?_, fun i j hi hj hij => ?_, fun q o2 hx => ?_⟩
  · rw [hn q (by omega) (Nat.lt_of_lt_of_le hq h.below.size)]; exact h.below.block q hq
  · obtain ⟨h1, h2⟩ := hI i hi
    by_cases hik : i = k
    · subst hik; rw [e']; exact ⟨hlo, hb⟩
    · rw [h2.resolve_left hik]
      have h3 := h.rows i h1
      exact ⟨h3.1, by rw [hn _ (hne i h1 hik) (Array.getElem?_eq_some_iff.1 h3.2).1]; exact h3.2⟩
  · obtain ⟨h1, h2⟩ := hI i hi
    obtain ⟨k1, k2⟩ := hI j hj
    by_cases hik : i = k
    · subst hik
      rw [e', k2.resolve_left (fun e => hij e.symm)]
      exact (hne j k1 (fun e => hij e.symm)).symm
    · by_cases hjk : j = k
      · subst hjk
        rw [e', h2.resolve_left hik]
        exact hne i h1 hik
      · rw [h2.resolve_left hik, k2.resolve_left hjk]; exact h.apart i j h1 k1 hij
  · have h1 := h.frame q o2 hx
    have hqb : q ≠ b := fun e2 => by have := h1.2.2 k hk; rw [e] at this; exact this e2.symm
    refine ⟨h1.1, by rw [hn q hqb (Array.getElem?_eq_some_iff.1 h1.2.1).1]; exact h1.2.1, fun i hi => ?_⟩
    obtain ⟨h2, h3⟩ := hI i hi
    by_cases hik : i = k
    · subst hik; rw [e']; exact fun e2 => hqb e2.symm
    · rw [h3.resolve_left hik]; exact h1.2.2 i h2
theorem OwnF.set (h : OwnF w0 w I ρ X) (k : Nat) (hk : I k) {b : Nat} {t : TypeId} {c : Array Value} (e : ρ k = row b t c) (j : Nat) (v : Value) (e' : ρ' k = row b t (c.setIfInBounds j v)) (hI : ∀ i, I' i → I i ∧ (i = k ∨ ρ' i = ρ i)) : OwnF w0 (w.setCell ⟨b, j, none⟩ v) I' ρ' X :=
  h.turn k hk e e' hI (by simp [World.setCell]) rfl rfl rfl ((h.rowAt k hk e).set j v) (fun q hq _ => Below.heap_setCell _ _ _ _ hq)
theorem OwnF.setMap (h : OwnF w0 w I ρ X) (k : Nat) (hk : I k) {b : Nat} {es es' : Array MapEntry} {n n' : Nat} (e : ρ k = (b, .map es n)) (e' : ρ' k = (b, .map es' n')) (hI : ∀ i, I' i → I i ∧ (i = k ∨ ρ' i = ρ i)) : OwnF w0 (Base.setMap w b es' n') I' ρ' X := by
  refine h.turn k hk e e' hI (by simp [Base.setMap]) rfl rfl rfl ((h.mapAt k hk e).set es' n') (fun q hq _ => ?_)
  show (w.heap.setIfInBounds b _)[q]? = _
  rw [Array.getElem?_setIfInBounds, if_neg (fun e => hq e.symm)]
/-- Several cells of one place. -/
def setAll (c : Array Value) : Nat → List Value → Array Value
  | _, [] => c
  | j, v :: l => setAll (c.setIfInBounds j v) (j + 1) l
def setCells (w : World) (b : Nat) : Nat → List Value → World
  | _, [] => w
  | j, v :: l => setCells (w.setCell ⟨b, j, none⟩ v) b (j + 1) l
theorem OwnF.setsAux {I : Nat → Prop} {X : Nat → Obj → Prop} {k b : Nat} {t : TypeId} (hk : I k) : ∀ (vs : List Value) (w : World) (ρ : Nat → Rw) (c : Array Value) (j : Nat), OwnF w0 w I ρ X → ρ k = row b t c →
    OwnF w0 (setCells w b j vs) I (fun i => if i = k then row b t (setAll c j vs) else ρ i) X
  | [], w, ρ, c, j, h, e => h.congr (fun _ h => h) (fun i _ => by
      by_cases hik : i = k
      · subst hik; simp only [if_true]; exact e.symm
      · simp only [if_neg hik])
  | v :: l, w, ρ, c, j, h, e => by
    have h1 := h.set (ρ' := fun i => if i = k then row b t (c.setIfInBounds j v) else ρ i) (I' := I) k hk e j v (by simp) (fun i hi => ⟨hi, by by_cases hik : i = k; exact Or.inl hik; exact Or.inr (if_neg hik)⟩)
    have h2 := OwnF.setsAux (t := t) (b := b) (X := X) hk l _ _ (c.setIfInBounds j v) (j + 1) h1 (by simp)
    refine h2.congr (fun _ h => h) (fun i _ => ?_)
    by_cases hik : i = k
    · simp only [if_pos hik]; rfl
    · simp only [if_neg hik]
theorem OwnF.sets (h : OwnF w0 w I ρ X) (k : Nat) (hk : I k) {b : Nat} {t : TypeId} {c : Array Value} (e : ρ k = row b t c) (j : Nat) (vs : List Value) (e' : ρ' k = row b t (setAll c j vs)) (hI : ∀ i, I' i → I i ∧ (i = k ∨ ρ' i = ρ i)) : OwnF w0 (setCells w b j vs) I' ρ' X := by
  refine (OwnF.setsAux hk vs w ρ c j h e).congr (fun i hi => (hI i hi).1) (fun i hi => ?_)
  by_cases hik : i = k
  · subst hik; simp only [if_true]; exact e'
  · simp only [if_neg hik]; exact (hI i hi).2.resolve_left hik
end

/-! ### The region -/
open Rega
section
variable {P : Program} {ops : Array Oper} {Q : Exit → Act → World → Prop} {a0 : Act} {e : Nat → Atoms → Value} {anc : Nat → List Nat} {G : (Nat → Bool) → Atoms → World → Prop}
/-- One operation, run alone, all that is owned told by G. -/
def Runs (P : Program) (ops : Array Oper) (Q : Exit → Act → World → Prop) (a0 : Act) (e : Nat → Atoms → Value) (anc : Nat → List Nat) (G : (Nat → Bool) → Atoms → World → Prop) (k : Nat) (o : Oper) : Prop :=
  ∀ (L : Nat → Bool) (α : Atoms) (a : Act) (w : World) (K : Act → World → Prop), L k = false → (∀ j, L j = true → ∀ i, i ∈ anc j → L i = true) → (∀ j, j ∈ anc k → L j = true) → G L α w →
    (∀ j t, j ∈ anc k → (ops[j]?).bind (·.dst) = some t → t < a0.tmps.size → a.tmps[t]? = some (e j α)) →
    (∀ t, slotOf ops t = none → a.tmps[t]? = a0.tmps[t]?) →
    (∀ t j, slotOf ops t = some j → L j = false → a.tmps[t]? = a0.tmps[t]?) →
    (∀ v α' w', (∀ j, j % 1000 ≠ k → α' j = α j) → v = e k α' → G (ran L k) α' w' → K (a.put o.dst v) w') →
    if Region.wanted o (yielded ops a.tmps) then o.wp P a w K Q else K (a.put o.dst undef) w
def Inv (ops : Array Oper) (a0 : Act) (e : Nat → Atoms → Value) (anc : Nat → List Nat) (G : (Nat → Bool) → Atoms → World → Prop) (listed : Array Bool) (a : Act) (w : World) : Prop :=
  listed.size = ops.size ∧ ∃ α, a = frameAt ops e a0 listed α ∧ G (has listed) α w ∧ ∀ k, listed.getD k false = true → ∀ j, j ∈ anc k → listed.getD j false = true
theorem wpAny_own (hap : apartB ops = true) (hbk : backB ops = true) (han : ancB ops anc = true)
    (he : ∀ k α α', (∀ j, (j % 1000 = k ∨ j % 1000 ∈ anc k) → α j = α' j) → e k α = e k α')
    (hrun : ∀ k o, ops[k]? = some o → Runs P ops Q a0 e anc G k o)
    (hend : ∀ α w, G (fun k => decide (k < ops.size)) α w → Q .normal (frameAt ops e a0 (Array.replicate ops.size true) α) w) :
    ∀ (fuel : Nat) (listed : Array Bool) (a : Act) (w : World), listed.toList.count false ≤ fuel → Inv ops a0 e anc G listed a w → wpAny P .any ops Q fuel listed a w := by
  have hall : ∀ listed : Array Bool, listed.size = ops.size → Region.ready .any ops listed = [] → listed = Array.replicate ops.size true := by
    intro listed hsz hr
    have key : ∀ k, k < ops.size → listed.getD k false = true := by
      intro k
      induction k using Nat.strongRecOn with
      | ind k ih =>
        intro hk
        cases hl : listed.getD k false with
        | true => rfl
        | false =>
          exfalso
          obtain ⟨o, ho⟩ : ∃ o, ops[k]? = some o := ⟨ops[k], Array.getElem?_eq_getElem hk⟩
          have hmem : k ∈ Region.ready .any ops listed := by
            unfold Region.ready
            rw [List.mem_filter]
            refine ⟨List.mem_range.2 hk, ?_⟩
            have hlt : listed.getD k true = false := by
              rw [Array.getD_eq_getD_getElem?, Array.getElem?_eq_getElem (by omega)] at hl ⊢
              simpa using hl
            rw [hlt, ho]
            simp only [Bool.not_false, Bool.true_and, Option.map_some, Option.getD_some]
            rw [Array.all_eq_true']
            intro ed hed
            cases hb : Region.binds .any ed with
            | false => rfl
            | true =>
              have h1 := List.all_eq_true.1 hbk k (List.mem_range.2 hk)
              rw [ho] at h1
              have h2 := List.all_eq_true.1 h1 ed (by simpa using hed)
              rw [hb] at h2
              have h3 : ed.on < k := by simpa using h2
              simp [ih ed.on h3 (by omega)]
          rw [hr] at hmem
          cases hmem
    apply Array.ext
    · simp [hsz]
    · intro k h1 h2
      have := key k (by omega)
      rw [Array.getD_eq_getD_getElem?, Array.getElem?_eq_getElem h1] at this
      simpa using this
  have hfin : ∀ (listed : Array Bool) (a : Act) (w : World), Inv ops a0 e anc G listed a w → Region.ready .any ops listed = [] → Q .normal a w := by
    rintro listed a w ⟨hsz, α, rfl, hG, hk⟩ hr
    have hl := hall listed hsz hr
    subst hl
    have hh : has (Array.replicate ops.size true) = fun k => decide (k < ops.size) := by
      funext k
      unfold has
      rw [Array.getD_eq_getD_getElem?, Array.getElem?_replicate]
      by_cases h : k < ops.size <;> simp [h]
    rw [hh] at hG
    exact hend α w hG
  intro fuel
  induction fuel with
  | zero =>
    intro listed a w hc hI
    have hr : Region.ready .any ops listed = [] := by
      rw [List.eq_nil_iff_forall_not_mem]
      intro i hi
      unfold Region.ready at hi
      rw [List.mem_filter] at hi
      have h1 : i < listed.size := by rw [hI.1]; exact List.mem_range.1 hi.1
      have h2 : listed.getD i true = false := by
        have := hi.2
        simp only [Bool.and_eq_true] at this
        simpa using this.1
      rw [Array.getD_eq_getD_getElem?, Array.getElem?_eq_getElem h1] at h2
      have h3 : false ∈ listed.toList := by
        have h4 : listed[i] = false := by simpa using h2
        rw [← h4]
        simp
      have := List.count_pos_iff.2 h3
      omega
    exact ⟨hr, hfin _ _ _ hI hr⟩
  | succ fuel ih =>
    intro listed a w hc hI
    refine ⟨fun hr => hfin _ _ _ hI hr, fun i hi => ?_⟩
    obtain ⟨hsz, α, rfl, hG, hk⟩ := hI
    unfold Region.ready at hi
    rw [List.mem_filter] at hi
    have hlt : i < ops.size := List.mem_range.1 hi.1
    obtain ⟨o, ho⟩ : ∃ o, ops[i]? = some o := ⟨ops[i], Array.getElem?_eq_getElem hlt⟩
    have hun : listed.getD i false = false := by
      have := hi.2
      simp only [Bool.and_eq_true] at this
      have h2 : listed.getD i true = false := by simpa using this.1
      rw [Array.getD_eq_getD_getElem?, Array.getElem?_eq_getElem (by omega)] at h2 ⊢
      simpa using h2
    have hdep : ∀ ed ∈ o.after.toList, Region.binds .any ed = true → listed.getD ed.on false = true := by
      intro ed hed hb
      have := hi.2
      simp only [Bool.and_eq_true, ho, Option.map_some, Option.getD_some] at this
      have h2 := Array.all_eq_true'.1 this.2 ed (by simpa using hed)
      simpa [hb] using h2
    have hanc : ∀ j, j ∈ anc i → listed.getD j false = true := by
      intro j hj
      have h1 := List.all_eq_true.1 han i (List.mem_range.2 hlt)
      rw [ho] at h1
      have h2 := List.all_eq_true.1 h1 j hj
      obtain ⟨ed, hed, h3⟩ := List.any_eq_true.1 h2
      simp only [Bool.and_eq_true, Bool.or_eq_true, beq_iff_eq] at h3
      have h4 := hdep ed hed h3.1
      rcases h3.2 with h5 | h5
      · rw [← h5]; exact h4
      · exact hk ed.on h4 j (by simpa using h5)
    have hcl : ∀ j, has listed j = true → ∀ i, i ∈ anc j → has listed i = true := fun j hj i hi => hk j hj i hi
    have hcnt : (listed.setIfInBounds i true).toList.count false ≤ fuel := by
      have hi2 : i < listed.toList.length := by simpa [hsz] using hlt
      have hv : listed.toList[i] = false := by
        rw [Array.getD_eq_getD_getElem?, Array.getElem?_eq_getElem (by omega)] at hun
        simpa using hun
      rw [Array.toList_setIfInBounds, List.count_set hi2, hv]
      have hp : 0 < listed.toList.count false := List.count_pos_iff.2 (by rw [← hv]; exact List.getElem_mem _)
      show listed.toList.count false - 1 + 0 ≤ fuel
      omega
    have hL : ∀ k, (listed.setIfInBounds i true).getD k false = if k = i then true else listed.getD k false := by
      intro k
      rw [Array.getD_eq_getD_getElem?, Array.getD_eq_getD_getElem?, Array.getElem?_setIfInBounds]
      by_cases hk : i = k
      · subst hk; simp [hsz, hlt]
      · rw [if_neg hk, if_neg (fun h => hk h.symm)]
    have hran : has (listed.setIfInBounds i true) = ran (has listed) i := funext hL
    have hnext : ∀ v α' w', (∀ j, j % 1000 ≠ i → α' j = α j) → v = e i α' → G (ran (has listed) i) α' w' →
        wpAny P .any ops Q fuel (listed.setIfInBounds i true) ((frameAt ops e a0 listed α).put o.dst v) w' := by
      intro v α' w' hα hv hG'
      subst hv
      have hsame : ∀ k, k ≠ i → listed.getD k false = true → ∀ j, (j % 1000 = k ∨ j % 1000 ∈ anc k) → α j = α' j := by
        intro k hki hl j hj
        refine (hα j ?_).symm
        intro hji
        rw [hji] at hj
        rcases hj with hj | hj
        · exact hki hj.symm
        · have := hk k hl _ hj
          rw [hun] at this
          cases this
      refine ih _ _ _ hcnt ⟨by simpa using hsz, α', ?_, by rw [hran]; exact hG', fun k hl => ?_⟩
      · exact frameAt_put hap ho hsz fun k hki hl => (he k α α' (hsame k hki hl)).symm
      · rw [hL k] at hl
        by_cases hki : k = i
        · subst hki
          exact fun j hj => by rw [hL j]; split; rfl; exact hanc j hj
        · rw [if_neg hki] at hl
          exact fun j hj => by rw [hL j]; split; rfl; exact hk k hl j hj
    have hr := hrun i o ho (has listed) α (frameAt ops e a0 listed α) w (wpAny P .any ops Q fuel (listed.setIfInBounds i true)) hun hcl hanc hG
      (fun j t hj hd ht => by
        rw [frameAt_get, slotOf_of hap hd, Array.getElem?_eq_getElem ht]
        simp only [Option.map_some, hanc j hj, if_true])
      (fun t ht => by
        rw [frameAt_get, ht]
        cases a0.tmps[t]? <;> rfl)
      (fun t j ht hj => by
        have hj' : listed.getD j false = false := hj
        rw [frameAt_get, ht]
        cases a0.tmps[t]? <;> simp [hj'])
      hnext
    unfold wpOp
    rw [ho]
    show if _ then _ else _
    split
    · rename_i hw
      rw [if_pos hw] at hr
      exact .inl hr
    · rename_i hw
      rw [if_neg hw] at hr
      exact hr

/-- ONE END SERVES EVERY ORDER. -/
theorem wp_region_own {id : Nat} {w0 : World} (hm : P.follows .mixedOrders = true) (hap : apartB ops = true) (hbk : backB ops = true) (han : ancB ops anc = true)
    (he : ∀ k α α', (∀ j, (j % 1000 = k ∨ j % 1000 ∈ anc k) → α j = α' j) → e k α = e k α')
    (hG0 : G (fun _ => false) (fun _ => 0) w0.drew)
    (hrun : ∀ k o, ops[k]? = some o → Runs P ops Q a0 e anc G k o)
    (hend : ∀ α w, G (fun k => decide (k < ops.size)) α w → Q .normal (frameAt ops e a0 (Array.replicate ops.size true) α) w) :
    (Code.region id ops true).wp P Q a0 w0 := by
  refine wp_region_any hm (wpAny_own hap hbk han he hrun hend _ _ _ _ ?_ ⟨by simp, fun _ => 0, ?_, ?_, fun k hk => ?_⟩)
  · have : (Array.replicate ops.size false).toList.count false = ops.size := by simp
    omega
  · show a0 = Act.mk _ _
    cases a0 with
    | mk tm df =>
      refine act_ext (Array.ext_getElem? fun t => ?_) rfl
      have := frameAt_get (ops := ops) (e := e) (a0 := ⟨tm, df⟩) (Array.replicate ops.size false) (fun _ => 0) t
      refine Eq.trans ?_ this.symm
      show tm[t]? = (tm[t]?).map _
      cases tm[t]? with
      | none => rfl
      | some v =>
        simp only [Option.map_some]
        cases slotOf ops t with
        | none => rfl
        | some k => simp [Array.getD_eq_getD_getElem?, Array.getElem?_replicate]; intro h; split at h <;> simp_all
  · have hh : has (Array.replicate ops.size false) = fun _ => false := by
      funext k
      unfold has
      rw [Array.getD_eq_getD_getElem?, Array.getElem?_replicate]
      by_cases h : k < ops.size <;> simp [h]
    rw [hh]
    exact hG0
  · exfalso
    rw [Array.getD_eq_getD_getElem?, Array.getElem?_replicate] at hk
    split at hk <;> simp at hk
/-- The operations one by one. -/
def RunsAll (P : Program) (ops : Array Oper) (Q : Exit → Act → World → Prop) (a0 : Act) (e : Nat → Atoms → Value) (anc : Nat → List Nat) (G : (Nat → Bool) → Atoms → World → Prop) : Nat → List Oper → Prop
  | _, [] => True
  | k, o :: l => Runs P ops Q a0 e anc G k o ∧ RunsAll P ops Q a0 e anc G (k + 1) l
theorem RunsAll.at {ops' : Array Oper} : ∀ (l : List Oper) (n : Nat), RunsAll P ops' Q a0 e anc G n l → ∀ k o, l[k]? = some o → Runs P ops' Q a0 e anc G (n + k) o
  | [], _, _, k, o, h => by simp at h
  | x :: l, n, ⟨h1, h2⟩, 0, o, h => by
    obtain rfl : x = o := by simpa using h
    exact h1
  | x :: l, n, ⟨h1, h2⟩, k + 1, o, h => by
    have := RunsAll.at l (n + 1) h2 k o (by simpa using h)
    rwa [Nat.add_assoc, Nat.add_comm 1 k] at this
theorem RunsAll.all {l : List Oper} (h : RunsAll P l.toArray Q a0 e anc G 0 l) : ∀ k o, l.toArray[k]? = some o → Runs P l.toArray Q a0 e anc G k o := fun k o ho => by
  have := RunsAll.at l 0 h k o (by simpa using ho)
  rwa [Nat.zero_add] at this

/-- Which places of a region's family are filled: 999, 1999, .. are the rows that were there; k, 1000 + k, .. those that operation k makes. -/
def act (cnt : List (Nat × Nat)) (nb : Nat) (L : Nat → Bool) (i : Nat) : Prop := if i % 1000 = 999 then i / 1000 < nb else L (i % 1000) = true ∧ i / 1000 < (cnt.lookup (i % 1000)).getD 0
theorem act_base {cnt : List (Nat × Nat)} {nb : Nat} {L : Nat → Bool} (i : Nat) (h : (i % 1000 == 999 && decide (i / 1000 < nb)) = true) : act cnt nb L i := by
  simp only [Bool.and_eq_true, beq_iff_eq, decide_eq_true_eq] at h
  unfold act
  rw [if_pos h.1]
  exact h.2
theorem act_new {cnt : List (Nat × Nat)} {nb : Nat} {L : Nat → Bool} (i : Nat) (h : (!(i % 1000 == 999) && decide (i / 1000 < (cnt.lookup (i % 1000)).getD 0)) = true) (hL : L (i % 1000) = true) : act cnt nb L i := by
  simp only [Bool.and_eq_true, Bool.not_eq_true', beq_eq_false_iff_ne, decide_eq_true_eq] at h
  unfold act
  rw [if_neg h.1]
  exact ⟨hL, h.2⟩
/-- Which places are filled once k has run, too. -/
theorem act_ran {cnt : List (Nat × Nat)} {nb : Nat} {L : Nat → Bool} {k i : Nat} (h : act cnt nb (ran L k) i) : act cnt nb L i ∨ (i % 1000 = k ∧ i / 1000 < (cnt.lookup k).getD 0) := by
  unfold act at h ⊢
  split at h
  · rename_i e
    rw [if_pos e]
    exact Or.inl h
  · rename_i e
    rw [if_neg e]
    by_cases hk : i % 1000 = k
    · exact Or.inr ⟨hk, by rw [← hk]; exact h.2⟩
    · have := h.1
      unfold ran at this
      rw [if_neg hk] at this
      exact Or.inl ⟨this, h.2⟩
/-- All the places that there are. -/
def places (cnt : List (Nat × Nat)) (nb : Nat) : List Nat := (List.range nb).map (· * 1000 + 999) ++ cnt.flatMap fun p => (List.range p.2).map (· * 1000 + p.1)
theorem act_places {cnt : List (Nat × Nat)} {nb : Nat} {L : Nat → Bool} {i : Nat} (h : act cnt nb L i) : i ∈ places cnt nb := by
  unfold act at h
  unfold places
  rw [List.mem_append]
  split at h
  · rename_i e
    exact Or.inl (List.mem_map.2 ⟨i / 1000, List.mem_range.2 h, by omega⟩)
  · refine Or.inr (List.mem_flatMap.2 ?_)
    obtain ⟨-, h2⟩ := h
    cases hl : cnt.lookup (i % 1000) with
    | none => rw [hl] at h2; simp at h2
    | some c =>
      rw [hl] at h2
      have hm : (i % 1000, c) ∈ cnt := by
        clear h2
        induction cnt with
        | nil => simp at hl
        | cons p q ih =>
          obtain ⟨a, b⟩ := p
          rw [List.lookup_cons] at hl
          split at hl
          · rename_i e
            have : i % 1000 = a := by simpa using e
            cases hl
            rw [this]
            exact List.mem_cons_self
          · exact List.mem_cons_of_mem _ (ih hl)
      exact ⟨_, hm, List.mem_map.2 ⟨i / 1000, List.mem_range.2 (by simpa using h2), by show i / 1000 * 1000 + i % 1000 = i; omega⟩⟩
theorem act_lt {cnt : List (Nat × Nat)} {nb : Nat} {L : Nat → Bool} {i : Nat} (h : act cnt nb L i) (hi : ¬ i % 1000 = 999) : L (i % 1000) = true := by
  unfold act at h
  rw [if_neg hi] at h
  exact h.1
end
/-! ### Steps of a region over a family -/
section
variable {w0 u u' : World} {X : Nat → Obj → Prop} {cnt : List (Nat × Nat)} {nb k : Nat} {anc trn : Nat → List Nat} {ρ : (Nat → Bool) → Atoms → Nat → Rw} {L : Nat → Bool} {α α' : Atoms}
/-- A place that operation k does not turn reads as before. -/
def Stable (cnt : List (Nat × Nat)) (nb : Nat) (anc trn : Nat → List Nat) (ρ : (Nat → Bool) → Atoms → Nat → Rw) : Prop :=
  ∀ k L α α' i, L k = false → (∀ j, L j = true → ∀ i, i ∈ anc j → L i = true) → (∀ j, j % 1000 ≠ k → α' j = α j) → act cnt nb L i → i ∉ trn k → ρ (ran L k) α' i = ρ L α i
theorem step_same (hS : Stable cnt nb anc trn ρ) (hk : L k = false) (hcl : ∀ j, L j = true → ∀ i, i ∈ anc j → L i = true) (hc : (cnt.lookup k).getD 0 = 0) (ht : trn k = []) (h : OwnF w0 u (act cnt nb L) (ρ L α) X) : OwnF w0 u (act cnt nb (ran L k)) (ρ (ran L k) α) X := by
  have hI : ∀ i, act cnt nb (ran L k) i → act cnt nb L i := fun i hi => by
    rcases act_ran hi with h | ⟨_, h2⟩
    · exact h
    · rw [hc] at h2; omega
  exact h.congr hI (fun i hi => hS k L α α i hk hcl (fun _ _ => rfl) (hI i hi) (by rw [ht]; simp))
theorem step_below (hS : Stable cnt nb anc trn ρ) (hk : L k = false) (hcl : ∀ j, L j = true → ∀ i, i ∈ anc j → L i = true) (hc : (cnt.lookup k).getD 0 = 0) (ht : trn k = []) (h : OwnF w0 u (act cnt nb L) (ρ L α) X) (hb : Below u.heap.size u u') : OwnF w0 u' (act cnt nb (ran L k)) (ρ (ran L k) α) X :=
  (step_same hS hk hcl hc ht h).step hb
theorem step_alloc (hS : Stable cnt nb anc trn ρ) (hk : L k = false) (hcl : ∀ j, L j = true → ∀ i, i ∈ anc j → L i = true) (hc : (cnt.lookup k).getD 0 = 1) (ht : trn k = []) (hlt : k < 999) (o : Obj) (he : ρ (ran L k) (fun j => if j = k then u.heap.size else α j) k = (u.heap.size, o)) (h : OwnF w0 u (act cnt nb L) (ρ L α) X) :
    OwnF w0 (u.alloc o) (act cnt nb (ran L k)) (ρ (ran L k) (fun j => if j = k then u.heap.size else α j)) X := by
  refine h.alloc o k he (fun i hi => ?_)
  rcases act_ran hi with h1 | ⟨h1, h2⟩
  · exact Or.inr ⟨h1, hS k L α _ i hk hcl (fun j hj => if_neg (fun e => hj (by omega))) h1 (by rw [ht]; simp)⟩
  · rw [hc] at h2; exact Or.inl (by omega)
theorem step_sets (hS : Stable cnt nb anc trn ρ) (hk : L k = false) (hcl : ∀ j, L j = true → ∀ i, i ∈ anc j → L i = true) (hc : (cnt.lookup k).getD 0 = 0) (p : Nat) (ht : trn k = [p]) (hp : act cnt nb L p) {b : Nat} {t : TypeId} {c : Array Value} (e : ρ L α p = row b t c) (j : Nat) (vs : List Value) (e' : ρ (ran L k) α p = row b t (setAll c j vs))
    (h : OwnF w0 u (act cnt nb L) (ρ L α) X) : OwnF w0 (setCells u b j vs) (act cnt nb (ran L k)) (ρ (ran L k) α) X := by
  refine h.sets p hp e j vs e' (fun i hi => ?_)
  rcases act_ran hi with h1 | ⟨_, h2⟩
  · refine ⟨h1, ?_⟩
    by_cases hip : i = p
    · exact Or.inl hip
    · exact Or.inr (hS k L α α i hk hcl (fun _ _ => rfl) h1 (by rw [ht]; simpa using hip))
  · rw [hc] at h2; omega
theorem step_setMap (hS : Stable cnt nb anc trn ρ) (hk : L k = false) (hcl : ∀ j, L j = true → ∀ i, i ∈ anc j → L i = true) (hc : (cnt.lookup k).getD 0 = 0) (p : Nat) (ht : trn k = [p]) (hp : act cnt nb L p) {b : Nat} {es es' : Array MapEntry} {n n' : Nat} (e : ρ L α p = (b, .map es n)) (e' : ρ (ran L k) α p = (b, .map es' n'))
    (h : OwnF w0 u (act cnt nb L) (ρ L α) X) : OwnF w0 (Base.setMap u b es' n') (act cnt nb (ran L k)) (ρ (ran L k) α) X := by
  refine h.setMap p hp e e' (fun i hi => ?_)
  rcases act_ran hi with h1 | ⟨_, h2⟩
  · refine ⟨h1, ?_⟩
    by_cases hip : i = p
    · exact Or.inl hip
    · exact Or.inr (hS k L α α i hk hcl (fun _ _ => rfl) h1 (by rw [ht]; simpa using hip))
  · rw [hc] at h2; omega
theorem step_call (hS : Stable cnt nb anc trn ρ) (hk : L k = false) (hcl : ∀ j, L j = true → ∀ i, i ∈ anc j → L i = true) (hα : ∀ j, j % 1000 ≠ k → α' j = α j) (is js : List Nat) (h1 : (is.all fun i => js.contains i) = true) (h2 : ((trn k).all fun i => is.contains i) = true)
    (h3 : ((List.range ((cnt.lookup k).getD 0)).all fun n => js.contains (n * 1000 + k)) = true) {M : List Rw} (hM : js.map (ρ (ran L k) α') = M) (h : OwnF w0 u (act cnt nb L) (ρ L α) X) (hO : Own w0 u' M (fun b o => X b o ∨ ∃ i, act cnt nb L i ∧ i ∉ is ∧ ρ L α i = (b, o))) :
    OwnF w0 u' (act cnt nb (ran L k)) (ρ (ran L k) α') X := by
  refine hO.join h js hM (fun i hi => ?_)
  rcases act_ran hi with h4 | ⟨h4, h5⟩
  · by_cases his : i ∈ is
    · exact Or.inl (by simpa using List.all_eq_true.1 h1 i his)
    · exact Or.inr ⟨h4, his, hS k L α α' i hk hcl hα h4 (fun ht => his (by simpa using List.all_eq_true.1 h2 i ht))⟩
  · have := List.all_eq_true.1 h3 (i / 1000) (List.mem_range.2 h5)
    have e : i / 1000 * 1000 + k = i := by omega
    rw [e] at this
    exact Or.inl (by simpa using this)
/-- All places are filled when all have run. -/
theorem act_all {n : Nat} {is : List Nat} (h : (is.all fun i => if i % 1000 == 999 then decide (i / 1000 < nb) else decide (i % 1000 < n) && decide (i / 1000 < (cnt.lookup (i % 1000)).getD 0)) = true) : ∀ i, i ∈ is → act cnt nb (fun k => decide (k < n)) i := fun i hi => by
  have h1 := List.all_eq_true.1 h i hi
  unfold act
  split
  · rename_i e; rw [e] at h1; simpa using h1
  · rename_i e
    have e2 : (i % 1000 == 999) = false := by simpa using e
    rw [e2] at h1
    simpa using h1
theorem ran_ne {k j : Nat} (h : j ≠ k) : ran L k j = L j := if_neg h
theorem ne_ran {k j : Nat} (hk : L k = false) (hj : L j = true) : j ≠ k := fun e => by rw [e, hk] at hj; cases hj
end
/-! ### Look-ups in a map that is known whole -/
section
variable {P : Program} {ops : Array Oper} {Q : Exit → Act → World → Prop} {rest : List Oper} {a : Act} {w : World} {o : Oper} {K : Act → World → Prop}
theorem wp_lookup_yes (m x : Operand) (t : TypeId) (ok : Bool) (hop : o.op = Op.lookup t m x ok) (k e : TypeId) (ht : P.underlying t = some (.map k e)) (hk : P.underlying k = some .string) {r : Nat} {es : Array MapEntry} {c : Nat} (h : Base.MapAt w r es c) (hm : a.eval m = .map (some r)) (s : ByteArray) (hx : a.eval x = .string s) (i : Nat) (v : Value)
    (hf : Instr.findNow .string (.string s) es.toList 0 = some (some (i, v))) (hK : K (a.put o.dst (if ok then .tuple #[v, .bool true] else v)) w) : o.wp P a w K Q := by
  unfold Oper.wp
  simp [execOp, hop, hm, hx, Base.run_lookup_yes w ht hk h s i v hf ok, Result.andThen]
  exact hK
theorem wpList_lookup_yes (hg : o.guard = none) (m x : Operand) (t : TypeId) (ok : Bool) (hop : o.op = Op.lookup t m x ok) (k e : TypeId) (ht : P.underlying t = some (.map k e)) (hk : P.underlying k = some .string) {r : Nat} {es : Array MapEntry} {c : Nat} (h : Base.MapAt w r es c) (hm : a.eval m = .map (some r)) (s : ByteArray) (hx : a.eval x = .string s) (i : Nat) (v : Value)
    (hf : Instr.findNow .string (.string s) es.toList 0 = some (some (i, v))) (hK : wpList P ops Q rest (a.put o.dst (if ok then .tuple #[v, .bool true] else v)) w) : wpList P ops Q (o :: rest) a w :=
  wpList_plain hg fun _ hK' => wp_lookup_yes m x t ok hop k e ht hk h hm s hx i v hf (hK' _ _ hK)
end
end Go.Proofs.YtghofdhhhbbaaaaGreatDoor.Own
