/- Frames: a world in which only the blocks of a list may have turned; rows of cells known whole. No condition. -/
import Derived.Test.YtghofdhhhbbaaaaGreatDoorMore
import Derived.Lib.QuietBelow
namespace Go.Proofs.YtghofdhhhbbaaaaGreatDoor.Base
open Go.RowKit

/-- Of the blocks that were there, only those of S may have turned; the streams are as they were. -/
structure KeptBut (S : List Nat) (w w' : World) : Prop where
  os : w'.os = w.os
  tape : w'.tape = w.tape
  output : w'.output = w.output
  size : w.heap.size ≤ w'.heap.size
  block : ∀ k, k < w.heap.size → k ∉ S → w'.heap[k]? = w.heap[k]?

theorem KeptBut.refl (S : List Nat) (w : World) : KeptBut S w w := ⟨rfl, rfl, rfl, Nat.le_refl _, fun _ _ _ => rfl⟩
theorem KeptBut.trans {S : List Nat} {a b c : World} (h : KeptBut S a b) (k : KeptBut S b c) : KeptBut S a c :=
  ⟨k.os.trans h.os, k.tape.trans h.tape, k.output.trans h.output, Nat.le_trans h.size k.size, fun i hi hn => (k.block i (Nat.lt_of_lt_of_le hi h.size) hn).trans (h.block i hi hn)⟩
theorem KeptBut.mono {S S' : List Nat} {w w' : World} (h : KeptBut S w w') (hs : ∀ k, k ∈ S → k ∈ S') : KeptBut S' w w' :=
  ⟨h.os, h.tape, h.output, h.size, fun k hk hn => h.block k hk (fun hm => hn (hs k hm))⟩
theorem KeptBut.of_below {S : List Nat} {w w' : World} (h : Below w.heap.size w w') : KeptBut S w w' :=
  ⟨h.os, h.tape, h.output, h.size, fun k hk _ => h.block k hk⟩
theorem KeptBut.below {S : List Nat} {B : Nat} {w w' : World} (h : KeptBut S w w') (hB : B ≤ w.heap.size) (hs : ∀ k, k ∈ S → B ≤ k) : Below B w w' :=
  ⟨h.os, h.tape, h.output, h.size, fun k hk => h.block k (by omega) (fun hm => by have := hs k hm; omega)⟩
theorem KeptBut.alloc {S : List Nat} {a w : World} (h : KeptBut S a w) (o : Obj) : KeptBut S a (w.alloc o) :=
  h.trans (.of_below (Below.alloc (Below.refl _ _) (Nat.le_refl _) o))
theorem KeptBut.drew {S : List Nat} {a w : World} (h : KeptBut S a w) : KeptBut S a w.drew := ⟨h.os, h.tape, h.output, h.size, h.block⟩
theorem KeptBut.setCell {S : List Nat} {a w : World} (h : KeptBut S a w) {p : Addr} (hp : p.block ∈ S ∨ a.heap.size ≤ p.block) (u : Value) : KeptBut S a (w.setCell p u) := by
  refine ⟨h.os, h.tape, h.output, by simpa [World.setCell] using h.size, fun k hk hn => ?_⟩
  rw [Below.heap_setCell _ _ _ _ (show k ≠ p.block from ?_)]
  · exact h.block k hk hn
  · rintro rfl
    rcases hp with hp | hp
    · exact hn hp
    · omega
theorem KeptBut.cell {S : List Nat} {w w' : World} (h : KeptBut S w w') {p : Addr} (hp : p.block < w.heap.size) (hn : p.block ∉ S) : w'.cell? p = w.cell? p :=
  World.cell?_of_block (w := w) (h.block p.block hp hn)
theorem KeptBut.cell_some {S : List Nat} {w w' : World} (h : KeptBut S w w') {p : Addr} {v : Value} (hv : w.cell? p = some v) (hn : p.block ∉ S) : w'.cell? p = some v := by
  rw [h.cell (block_of_cell hv) hn]; exact hv
theorem KeptBut.plain {S : List Nat} {w w' : World} (h : KeptBut S w w') {b : Nat} (hp : plainAt w b = true) (hb : b < w.heap.size) (hn : b ∉ S) : plainAt w' b = true := by
  unfold plainAt
  rw [h.block b hb hn]
  exact hp
theorem plain_lt {w : World} {b : Nat} (hp : plainAt w b = true) : b < w.heap.size := by
  obtain ⟨c, t, h⟩ := plainAt_inv hp
  exact (Array.getElem?_eq_some_iff.1 h).1

/-- A row of cells known whole: block b holds the cells c, nothing of it frozen. -/
def RowAt (w : World) (b : Nat) (t : TypeId) (c : Array Value) : Prop := w.heap[b]? = some (.cells c t (0, 0))
namespace RowAt
variable {w w' : World} {b : Nat} {t : TypeId} {c : Array Value}
theorem lt (h : RowAt w b t c) : b < w.heap.size := (Array.getElem?_eq_some_iff.1 h).1
theorem cell (h : RowAt w b t c) {i : Nat} {v : Value} (hv : c[i]? = some v) : w.cell? ⟨b, i, none⟩ = some v := by
  have h' : w.heap[b]? = some (.cells c t (0, 0)) := h
  simp [World.cell?, h', hv]
theorem free (h : RowAt w b t c) (i : Nat) : w.frozen? ⟨b, i, none⟩ = false := free_of_blk h i
theorem plain (h : RowAt w b t c) : plainAt w b = true := plainAt_mk h
theorem set (h : RowAt w b t c) (i : Nat) (v : Value) : RowAt (w.setCell ⟨b, i, none⟩ v) b t (c.setIfInBounds i v) := blk_setCell h i v
theorem setOther (h : RowAt w b t c) {a : Addr} (ha : b ≠ a.block) (v : Value) : RowAt (w.setCell a v) b t c := by
  unfold RowAt; rw [Below.heap_setCell _ _ _ _ ha]; exact h
theorem alloc (h : RowAt w b t c) (o : Obj) : RowAt (w.alloc o) b t c := by
  unfold RowAt; rw [Below.heap_alloc _ _ _ h.lt]; exact h
theorem new (w : World) (c : Array Value) (t : TypeId) : RowAt (w.alloc (.cells c t)) w.heap.size t c := (MapKept.heap_alloc w _).1
theorem kept (h : RowAt w b t c) {S : List Nat} (k : KeptBut S w w') (hn : b ∉ S) : RowAt w' b t c := by
  unfold RowAt; rw [k.block b h.lt hn]; exact h
theorem below (h : RowAt w b t c) {B : Nat} (k : Below B w w') (hb : b < B) : RowAt w' b t c := by
  unfold RowAt; rw [k.block b hb]; exact h
end RowAt

/-! ### Function values -/
def isFuncT : Option TypeDesc → Bool
  | some (.func _ _ _) => true
  | _ => false
@[simp] theorem isFuncT_some (a b : Array TypeId) (c : Bool) : isFuncT (some (.func a b c)) = true := rfl
theorem isFuncT_inv {d : Option TypeDesc} (h : isFuncT d = true) : ∃ a b c, d = some (.func a b c) := by
  cases d with
  | none => cases h
  | some d => cases d <;> first | (exact ⟨_, _, _, rfl⟩) | cases h
section
variable {P : Program} (w : World)
theorem run_equal_func_nil (t : TypeId) (f : Fn) (a c : Array Value) (h : isFuncT (P.underlying t) = true) :
    (Op.equal t (.func f a c) .nilFunc).run P w = .ok false w := by
  obtain ⟨x, y, z, hu⟩ := isFuncT_inv h
  have hd : ∀ d : Nat, (Op.equalIn (d + 1) t (.func f a c) .nilFunc).run P w = .ok false w := fun d => by
    simp [Op.equalIn, run_underlying hu]
  exact hd 9999
@[go_sem] theorem run_eql_func_nil (t : TypeId) (f : Fn) (a c : Array Value) (h : isFuncT (P.underlying t) = true) :
    (binOp .eql t (.func f a c) .nilFunc).run P w = .ok (.bool false) w := by
  simp only [binOp]
  simp [run_equal_func_nil w t f a c h]
@[go_sem] theorem run_neq_func_nil (t : TypeId) (f : Fn) (a c : Array Value) (h : isFuncT (P.underlying t) = true) :
    (binOp .neq t (.func f a c) .nilFunc).run P w = .ok (.bool true) w := by
  simp only [binOp]
  simp [run_equal_func_nil w t f a c h]
@[go_sem] theorem run_makeFunc_any (f : Fn) (a c : Array Value) : (Instr.makeFunc f a c).run P w = .ok (.func f a c) w := rfl
end
theorem RowAt.drew {w : World} {b : Nat} {t : TypeId} {c : Array Value} (h : RowAt w b t c) : RowAt w.drew b t c := h
theorem RowAt.new' (w : World) (c : Array Value) (t : TypeId) (n : Nat) (hn : n = w.heap.size) : RowAt (w.alloc (.cells c t)) n t c := by subst hn; exact RowAt.new w c t
end Go.Proofs.YtghofdhhhbbaaaaGreatDoor.Base
