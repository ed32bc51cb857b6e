/- More small laws of the walk that the seat's texts share: cells behind new blocks. No condition. -/
import Derived.Test.YtghofdhhhbbaaaaGreatDoorBase
namespace Go.Proofs.YtghofdhhhbbaaaaGreatDoor.Base

/-- A cell that is there reads as it did behind a new block. -/
@[go_sem] theorem cell_alloc_some (w : World) (a : Addr) (o : Obj) (h : (w.cell? a).isSome = true) : (w.alloc o).cell? a = w.cell? a := by
  refine World.cell?_alloc_lt w o a ?_
  obtain ⟨v, hv⟩ := Option.isSome_iff_exists.1 h
  unfold World.cell? at hv
  cases hb : w.heap[a.block]? with
  | none => rw [hb] at hv; cases hv
  | some x => exact (Array.getElem?_eq_some_iff.1 hb).1
theorem cell_below {B : Nat} {w w' : World} (h : RowKit.Below B w w') {p : Addr} {v : Value} (hp : p.block < B) (hv : w.cell? p = some v) : w'.cell? p = some v := by
  rw [h.cell hp]; exact hv
theorem block_of_cell {w : World} {a : Addr} {v : Value} (h : w.cell? a = some v) : a.block < w.heap.size := by
  unfold World.cell? at h
  cases hb : w.heap[a.block]? with
  | none => rw [hb] at h; cases h
  | some x => exact (Array.getElem?_eq_some_iff.1 hb).1
/-- A store into a row of cells, said of the whole row. -/
theorem blk_setCell {w : World} {b : Nat} {c : Array Value} {t : TypeId} {fr : Nat × Nat} (h : w.heap[b]? = some (.cells c t fr)) (i : Nat) (v : Value) :
    (w.setCell ⟨b, i, none⟩ v).heap[b]? = some (.cells (c.setIfInBounds i v) t fr) := by
  simp [World.setCell, Array.getElem?_modify, h]
theorem cell_of_blk {w : World} {b : Nat} {c : Array Value} {t : TypeId} {fr : Nat × Nat} (h : w.heap[b]? = some (.cells c t fr)) (i : Nat) (hi : i < c.size) :
    w.cell? ⟨b, i, none⟩ = some c[i] := by
  simp [World.cell?, h, hi]
theorem free_of_blk {w : World} {b : Nat} {c : Array Value} {t : TypeId} (h : w.heap[b]? = some (.cells c t (0, 0))) (i : Nat) :
    w.frozen? ⟨b, i, none⟩ = false := by
  simp [World.frozen?, h]
/-- A block below n is below n + 1, n + 1 + 1 and so on: laid ahead of a walk that makes new blocks before it reads an old one. -/
theorem lts {r n : Nat} (h : r < n) : r < n + 1 ∧ r < n + 1 + 1 ∧ r < n + 1 + 1 + 1 ∧ r < n + 1 + 1 + 1 + 1 ∧ r < n + 1 + 1 + 1 + 1 + 1 ∧ r < n + 1 + 1 + 1 + 1 + 1 + 1 ∧ r < n + 1 + 1 + 1 + 1 + 1 + 1 + 1 ∧ r < n + 1 + 1 + 1 + 1 + 1 + 1 + 1 + 1 ∧ r < n + 1 + 1 + 1 + 1 + 1 + 1 + 1 + 1 + 1 ∧ r < n + 1 + 1 + 1 + 1 + 1 + 1 + 1 + 1 + 1 + 1 ∧ r < n + 1 + 1 + 1 + 1 + 1 + 1 + 1 + 1 + 1 + 1 + 1 ∧ r < n + 1 + 1 + 1 + 1 + 1 + 1 + 1 + 1 + 1 + 1 + 1 + 1 := by omega

/-! ### Two pointers held against each other -/
def isOk {α : Type} : Result α → Bool
  | .ok _ _ => true
  | _ => false
@[simp] theorem isOk_ok {α : Type} (a : α) (w : World) : isOk (Result.ok a w) = true := rfl
/-- The block is a row of cells of which no part is frozen. -/
def plainAt (w : World) (b : Nat) : Bool :=
  match w.heap[b]? with
  | some (.cells _ _ fr) => fr.1 == 0 && fr.2 == 0
  | _ => false
theorem plainAt_inv {w : World} {b : Nat} (h : plainAt w b = true) : ∃ c t, w.heap[b]? = some (.cells c t (0, 0)) := by
  unfold plainAt at h
  split at h
  · rename_i c t fr hb
    obtain ⟨lo, hi⟩ := fr
    simp only [Bool.and_eq_true, beq_iff_eq] at h
    obtain ⟨rfl, rfl⟩ := h
    exact ⟨c, t, hb⟩
  · cases h
theorem plainAt_mk {w : World} {b : Nat} {c : Array Value} {t : TypeId} (h : w.heap[b]? = some (.cells c t (0, 0))) : plainAt w b = true := by
  simp [plainAt, h]
@[go_sem] theorem plainAt_alloc_at (w : World) (c : Array Value) (t : TypeId) (n : Nat) (hn : n = w.heap.size) : plainAt (w.alloc (.cells c t)) n = true := by
  subst hn
  exact plainAt_mk (MapKept.heap_alloc w _).1
@[go_sem] theorem plainAt_alloc_past (w : World) (o : Obj) (n : Nat) (hn : n < w.heap.size) : plainAt (w.alloc o) n = plainAt w n := by
  unfold plainAt
  rw [RowKit.Below.heap_alloc _ _ _ hn]
@[go_sem] theorem plainAt_setCell (w : World) (a : Addr) (v : Value) (n : Nat) : plainAt (w.setCell a v) n = plainAt w n := by
  unfold plainAt
  by_cases e : n = a.block
  · subst e
    simp only [World.setCell, Array.getElem?_modify, if_true]
    cases w.heap[a.block]? with
    | none => rfl
    | some x => cases x <;> rfl
  · rw [RowKit.Below.heap_setCell _ _ _ _ e]
theorem plainAt_below {B : Nat} {w w' : World} (h : RowKit.Below B w w') {b : Nat} (hb : b < B) (hp : plainAt w b = true) : plainAt w' b = true := by
  unfold plainAt
  rw [h.block b hb]
  exact hp
section
variable {P : Program} (w : World)
theorem isOk_inv {α : Type} {r : Result α} (h : isOk r = true) : ∃ a w', r = .ok a w' := by
  cases r with
  | ok a w' => exact ⟨a, w', rfl⟩
  | halt _ _ => cases h
theorem sizeOf_world {t : TypeId} {n : Nat} {w' : World} (h : (sizeOf t).run P w = .ok n w') : w' = w := by
  cases hi : P.info? t with
  | none => simp [sizeOf, typeInfo, hi] at h
  | some i => simp [sizeOf, typeInfo, hi] at h; exact h.2.symm
theorem run_equal_ptr_same (t : TypeId) (a : Addr) (h : P.underlying t = some (.pointer (P.pointee t))) (hs : isOk ((sizeOf (P.pointee t)).run P w) = true) :
    (Op.equal t (.pointer (some a)) (.pointer (some a))).run P w = .ok true w := by
  obtain ⟨n, w', hn⟩ := isOk_inv hs
  have hw := sizeOf_world w hn
  subst hw
  have hd : ∀ d : Nat, (Op.equalIn (d + 1) t (.pointer (some a)) (.pointer (some a))).run P w' = .ok true w' := fun d => by
    by_cases h0 : n = 0
    · simp [Op.equalIn, run_underlying h, hn, h0]
    · simp [Op.equalIn, run_underlying h, hn, sameAddr]
  exact hd 9999
@[go_sem] theorem run_eql_ptr_same (t : TypeId) (a : Addr) (h : P.underlying t = some (.pointer (P.pointee t))) (hs : isOk ((sizeOf (P.pointee t)).run P w) = true) :
    (binOp .eql t (.pointer (some a)) (.pointer (some a))).run P w = .ok (.bool true) w := by
  simp only [binOp]
  simp [run_equal_ptr_same w t a h hs]
@[go_sem] theorem run_neq_ptr_same (t : TypeId) (a : Addr) (h : P.underlying t = some (.pointer (P.pointee t))) (hs : isOk ((sizeOf (P.pointee t)).run P w) = true) :
    (binOp .neq t (.pointer (some a)) (.pointer (some a))).run P w = .ok (.bool false) w := by
  simp only [binOp]
  simp [run_equal_ptr_same w t a h hs]
def notZero : Result Nat → Bool
  | .ok (_ + 1) _ => true
  | _ => false
@[simp] theorem notZero_ok (n : Nat) (w : World) : notZero (.ok n w) = !(n == 0) := by cases n <;> rfl
theorem run_equal_ptr_other (t : TypeId) (b i c j : Nat) (h : P.underlying t = some (.pointer (P.pointee t))) (hs : notZero ((sizeOf (P.pointee t)).run P w) = true)
    (hne : ¬ b = c) (hb : plainAt w b = true) (hc : plainAt w c = true) :
    (Op.equal t (.pointer (some ⟨b, i, none⟩)) (.pointer (some ⟨c, j, none⟩))).run P w = .ok false w := by
  obtain ⟨n, w', hn⟩ : ∃ n w', (sizeOf (P.pointee t)).run P w = .ok n w' := by
    cases hr : (sizeOf (P.pointee t)).run P w with
    | ok n w' => exact ⟨n, w', rfl⟩
    | halt _ _ => rw [hr] at hs; cases hs
  have hw := sizeOf_world w hn
  subst hw
  have h0 : ¬ n = 0 := by
    rintro rfl
    rw [hn] at hs
    cases hs
  obtain ⟨cb, tb, hbb⟩ := plainAt_inv hb
  obtain ⟨cc, tc, hcc⟩ := plainAt_inv hc
  have hsa : (sameAddr ⟨b, i, none⟩ ⟨c, j, none⟩).run P w' = .ok false w' := by
    simp [sameAddr, hne, World.frozen?, hbb, hcc, noView, viewAt, World.shape?, mayBeOne, stringish]
  have hd : ∀ d : Nat, (Op.equalIn (d + 1) t (.pointer (some ⟨b, i, none⟩)) (.pointer (some ⟨c, j, none⟩))).run P w' = .ok false w' := fun d => by
    simp [Op.equalIn, run_underlying h, hn, h0, hsa]
  exact hd 9999
@[go_sem] theorem run_eql_ptr_other (t : TypeId) (b i c j : Nat) (h : P.underlying t = some (.pointer (P.pointee t))) (hs : notZero ((sizeOf (P.pointee t)).run P w) = true)
    (hne : ¬ b = c) (hb : plainAt w b = true) (hc : plainAt w c = true) :
    (binOp .eql t (.pointer (some ⟨b, i, none⟩)) (.pointer (some ⟨c, j, none⟩))).run P w = .ok (.bool false) w := by
  simp only [binOp]
  simp [run_equal_ptr_other w t b i c j h hs hne hb hc]
@[go_sem] theorem run_neq_ptr_other (t : TypeId) (b i c j : Nat) (h : P.underlying t = some (.pointer (P.pointee t))) (hs : notZero ((sizeOf (P.pointee t)).run P w) = true)
    (hne : ¬ b = c) (hb : plainAt w b = true) (hc : plainAt w c = true) :
    (binOp .neq t (.pointer (some ⟨b, i, none⟩)) (.pointer (some ⟨c, j, none⟩))).run P w = .ok (.bool true) w := by
  simp only [binOp]
  simp [run_equal_ptr_other w t b i c j h hs hne hb hc]
end
end Go.Proofs.YtghofdhhhbbaaaaGreatDoor.Base
