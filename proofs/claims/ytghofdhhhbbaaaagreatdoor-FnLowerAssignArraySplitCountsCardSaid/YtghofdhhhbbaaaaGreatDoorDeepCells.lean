/- Cells under many allocations: told in one step, since simp's discharge is shallow. No condition. -/
import Derived.Test.YtghofdhhhbbaaaaGreatDoorMore
namespace Go.Proofs.YtghofdhhhbbaaaaGreatDoor.Base
open Go.RowKit
@[go_sem] theorem cell_alloc_some3 (w : World) (a : Addr) (o0 o1 o2 : Obj) (h : (w.cell? a).isSome = true) : (((w.alloc o0).alloc o1).alloc o2).cell? a = w.cell? a := by
  have e1 : (w.alloc o0).cell? a = w.cell? a := (cell_alloc_some _ a o0 h)
  have e2 : ((w.alloc o0).alloc o1).cell? a = w.cell? a := (cell_alloc_some _ a o1 (by rw [e1]; exact h)).trans e1
  have e3 : (((w.alloc o0).alloc o1).alloc o2).cell? a = w.cell? a := (cell_alloc_some _ a o2 (by rw [e2]; exact h)).trans e2
  exact e3
@[go_sem] theorem cell_alloc_some4 (w : World) (a : Addr) (o0 o1 o2 o3 : Obj) (h : (w.cell? a).isSome = true) : ((((w.alloc o0).alloc o1).alloc o2).alloc o3).cell? a = w.cell? a := by
  have e1 : (w.alloc o0).cell? a = w.cell? a := (cell_alloc_some _ a o0 h)
  have e2 : ((w.alloc o0).alloc o1).cell? a = w.cell? a := (cell_alloc_some _ a o1 (by rw [e1]; exact h)).trans e1
  have e3 : (((w.alloc o0).alloc o1).alloc o2).cell? a = w.cell? a := (cell_alloc_some _ a o2 (by rw [e2]; exact h)).trans e2
  have e4 : ((((w.alloc o0).alloc o1).alloc o2).alloc o3).cell? a = w.cell? a := (cell_alloc_some _ a o3 (by rw [e3]; exact h)).trans e3
  exact e4
@[go_sem] theorem cell_alloc_some5 (w : World) (a : Addr) (o0 o1 o2 o3 o4 : Obj) (h : (w.cell? a).isSome = true) : (((((w.alloc o0).alloc o1).alloc o2).alloc o3).alloc o4).cell? a = w.cell? a := by
  have e1 : (w.alloc o0).cell? a = w.cell? a := (cell_alloc_some _ a o0 h)
  have e2 : ((w.alloc o0).alloc o1).cell? a = w.cell? a := (cell_alloc_some _ a o1 (by rw [e1]; exact h)).trans e1
  have e3 : (((w.alloc o0).alloc o1).alloc o2).cell? a = w.cell? a := (cell_alloc_some _ a o2 (by rw [e2]; exact h)).trans e2
  have e4 : ((((w.alloc o0).alloc o1).alloc o2).alloc o3).cell? a = w.cell? a := (cell_alloc_some _ a o3 (by rw [e3]; exact h)).trans e3
  have e5 : (((((w.alloc o0).alloc o1).alloc o2).alloc o3).alloc o4).cell? a = w.cell? a := (cell_alloc_some _ a o4 (by rw [e4]; exact h)).trans e4
  exact e5
@[go_sem] theorem cell_alloc_some6 (w : World) (a : Addr) (o0 o1 o2 o3 o4 o5 : Obj) (h : (w.cell? a).isSome = true) : ((((((w.alloc o0).alloc o1).alloc o2).alloc o3).alloc o4).alloc o5).cell? a = w.cell? a := by
  have e1 : (w.alloc o0).cell? a = w.cell? a := (cell_alloc_some _ a o0 h)
  have e2 : ((w.alloc o0).alloc o1).cell? a = w.cell? a := (cell_alloc_some _ a o1 (by rw [e1]; exact h)).trans e1
  have e3 : (((w.alloc o0).alloc o1).alloc o2).cell? a = w.cell? a := (cell_alloc_some _ a o2 (by rw [e2]; exact h)).trans e2
  have e4 : ((((w.alloc o0).alloc o1).alloc o2).alloc o3).cell? a = w.cell? a := (cell_alloc_some _ a o3 (by rw [e3]; exact h)).trans e3
  have e5 : (((((w.alloc o0).alloc o1).alloc o2).alloc o3).alloc o4).cell? a = w.cell? a := (cell_alloc_some _ a o4 (by rw [e4]; exact h)).trans e4
  have e6 : ((((((w.alloc o0).alloc o1).alloc o2).alloc o3).alloc o4).alloc o5).cell? a = w.cell? a := (cell_alloc_some _ a o5 (by rw [e5]; exact h)).trans e5
  exact e6
@[go_sem] theorem cell_alloc_some7 (w : World) (a : Addr) (o0 o1 o2 o3 o4 o5 o6 : Obj) (h : (w.cell? a).isSome = true) : (((((((w.alloc o0).alloc o1).alloc o2).alloc o3).alloc o4).alloc o5).alloc o6).cell? a = w.cell? a := by
  have e1 : (w.alloc o0).cell? a = w.cell? a := (cell_alloc_some _ a o0 h)
  have e2 : ((w.alloc o0).alloc o1).cell? a = w.cell? a := (cell_alloc_some _ a o1 (by rw [e1]; exact h)).trans e1
  have e3 : (((w.alloc o0).alloc o1).alloc o2).cell? a = w.cell? a := (cell_alloc_some _ a o2 (by rw [e2]; exact h)).trans e2
  have e4 : ((((w.alloc o0).alloc o1).alloc o2).alloc o3).cell? a = w.cell? a := (cell_alloc_some _ a o3 (by rw [e3]; exact h)).trans e3
  have e5 : (((((w.alloc o0).alloc o1).alloc o2).alloc o3).alloc o4).cell? a = w.cell? a := (cell_alloc_some _ a o4 (by rw [e4]; exact h)).trans e4
  have e6 : ((((((w.alloc o0).alloc o1).alloc o2).alloc o3).alloc o4).alloc o5).cell? a = w.cell? a := (cell_alloc_some _ a o5 (by rw [e5]; exact h)).trans e5
  have e7 : (((((((w.alloc o0).alloc o1).alloc o2).alloc o3).alloc o4).alloc o5).alloc o6).cell? a = w.cell? a := (cell_alloc_some _ a o6 (by rw [e6]; exact h)).trans e6
  exact e7
@[go_sem] theorem cell_alloc_some8 (w : World) (a : Addr) (o0 o1 o2 o3 o4 o5 o6 o7 : Obj) (h : (w.cell? a).isSome = true) : ((((((((w.alloc o0).alloc o1).alloc o2).alloc o3).alloc o4).alloc o5).alloc o6).alloc o7).cell? a = w.cell? a := by
  have e1 : (w.alloc o0).cell? a = w.cell? a := (cell_alloc_some _ a o0 h)
  have e2 : ((w.alloc o0).alloc o1).cell? a = w.cell? a := (cell_alloc_some _ a o1 (by rw [e1]; exact h)).trans e1
  have e3 : (((w.alloc o0).alloc o1).alloc o2).cell? a = w.cell? a := (cell_alloc_some _ a o2 (by rw [e2]; exact h)).trans e2
  have e4 : ((((w.alloc o0).alloc o1).alloc o2).alloc o3).cell? a = w.cell? a := (cell_alloc_some _ a o3 (by rw [e3]; exact h)).trans e3
  have e5 : (((((w.alloc o0).alloc o1).alloc o2).alloc o3).alloc o4).cell? a = w.cell? a := (cell_alloc_some _ a o4 (by rw [e4]; exact h)).trans e4
  have e6 : ((((((w.alloc o0).alloc o1).alloc o2).alloc o3).alloc o4).alloc o5).cell? a = w.cell? a := (cell_alloc_some _ a o5 (by rw [e5]; exact h)).trans e5
  have e7 : (((((((w.alloc o0).alloc o1).alloc o2).alloc o3).alloc o4).alloc o5).alloc o6).cell? a = w.cell? a := (cell_alloc_some _ a o6 (by rw [e6]; exact h)).trans e6
  have e8 : ((((((((w.alloc o0).alloc o1).alloc o2).alloc o3).alloc o4).alloc o5).alloc o6).alloc o7).cell? a = w.cell? a := (cell_alloc_some _ a o7 (by rw [e7]; exact h)).trans e7
  exact e8
@[go_sem] theorem cell_alloc_some9 (w : World) (a : Addr) (o0 o1 o2 o3 o4 o5 o6 o7 o8 : Obj) (h : (w.cell? a).isSome = true) : (((((((((w.alloc o0).alloc o1).alloc o2).alloc o3).alloc o4).alloc o5).alloc o6).alloc o7).alloc o8).cell? a = w.cell? a := by
  have e1 : (w.alloc o0).cell? a = w.cell? a := (cell_alloc_some _ a o0 h)
  have e2 : ((w.alloc o0).alloc o1).cell? a = w.cell? a := (cell_alloc_some _ a o1 (by rw [e1]; exact h)).trans e1
  have e3 : (((w.alloc o0).alloc o1).alloc o2).cell? a = w.cell? a := (cell_alloc_some _ a o2 (by rw [e2]; exact h)).trans e2
  have e4 : ((((w.alloc o0).alloc o1).alloc o2).alloc o3).cell? a = w.cell? a := (cell_alloc_some _ a o3 (by rw [e3]; exact h)).trans e3
  have e5 : (((((w.alloc o0).alloc o1).alloc o2).alloc o3).alloc o4).cell? a = w.cell? a := (cell_alloc_some _ a o4 (by rw [e4]; exact h)).trans e4
  have e6 : ((((((w.alloc o0).alloc o1).alloc o2).alloc o3).alloc o4).alloc o5).cell? a = w.cell? a := (cell_alloc_some _ a o5 (by rw [e5]; exact h)).trans e5
  have e7 : (((((((w.alloc o0).alloc o1).alloc o2).alloc o3).alloc o4).alloc o5).alloc o6).cell? a = w.cell? a := (cell_alloc_some _ a o6 (by rw [e6]; exact h)).trans e6
  have e8 : ((((((((w.alloc o0).alloc o1).alloc o2).alloc o3).alloc o4).alloc o5).alloc o6).alloc o7).cell? a = w.cell? a := (cell_alloc_some _ a o7 (by rw [e7]; exact h)).trans e7
  have e9 : (((((((((w.alloc o0).alloc o1).alloc o2).alloc o3).alloc o4).alloc o5).alloc o6).alloc o7).alloc o8).cell? a = w.cell? a := (cell_alloc_some _ a o8 (by rw [e8]; exact h)).trans e8
  exact e9
@[go_sem] theorem cell_alloc_some10 (w : World) (a : Addr) (o0 o1 o2 o3 o4 o5 o6 o7 o8 o9 : Obj) (h : (w.cell? a).isSome = true) : ((((((((((w.alloc o0).alloc o1).alloc o2).alloc o3).alloc o4).alloc o5).alloc o6).alloc o7).alloc o8).alloc o9).cell? a = w.cell? a := by
  have e1 : (w.alloc o0).cell? a = w.cell? a := (cell_alloc_some _ a o0 h)
  have e2 : ((w.alloc o0).alloc o1).cell? a = w.cell? a := (cell_alloc_some _ a o1 (by rw [e1]; exact h)).trans e1
  have e3 : (((w.alloc o0).alloc o1).alloc o2).cell? a = w.cell? a := (cell_alloc_some _ a o2 (by rw [e2]; exact h)).trans e2
  have e4 : ((((w.alloc o0).alloc o1).alloc o2).alloc o3).cell? a = w.cell? a := (cell_alloc_some _ a o3 (by rw [e3]; exact h)).trans e3
  have e5 : (((((w.alloc o0).alloc o1).alloc o2).alloc o3).alloc o4).cell? a = w.cell? a := (cell_alloc_some _ a o4 (by rw [e4]; exact h)).trans e4
  have e6 : ((((((w.alloc o0).alloc o1).alloc o2).alloc o3).alloc o4).alloc o5).cell? a = w.cell? a := (cell_alloc_some _ a o5 (by rw [e5]; exact h)).trans e5
  have e7 : (((((((w.alloc o0).alloc o1).alloc o2).alloc o3).alloc o4).alloc o5).alloc o6).cell? a = w.cell? a := (cell_alloc_some _ a o6 (by rw [e6]; exact h)).trans e6
  have e8 : ((((((((w.alloc o0).alloc o1).alloc o2).alloc o3).alloc o4).alloc o5).alloc o6).alloc o7).cell? a = w.cell? a := (cell_alloc_some _ a o7 (by rw [e7]; exact h)).trans e7
  have e9 : (((((((((w.alloc o0).alloc o1).alloc o2).alloc o3).alloc o4).alloc o5).alloc o6).alloc o7).alloc o8).cell? a = w.cell? a := (cell_alloc_some _ a o8 (by rw [e8]; exact h)).trans e8
  have e10 : ((((((((((w.alloc o0).alloc o1).alloc o2).alloc o3).alloc o4).alloc o5).alloc o6).alloc o7).alloc o8).alloc o9).cell? a = w.cell? a := (cell_alloc_some _ a o9 (by rw [e9]; exact h)).trans e9
  exact e10
@[go_sem] theorem cell_alloc_some11 (w : World) (a : Addr) (o0 o1 o2 o3 o4 o5 o6 o7 o8 o9 o10 : Obj) (h : (w.cell? a).isSome = true) : (((((((((((w.alloc o0).alloc o1).alloc o2).alloc o3).alloc o4).alloc o5).alloc o6).alloc o7).alloc o8).alloc o9).alloc o10).cell? a = w.cell? a := by
  have e1 : (w.alloc o0).cell? a = w.cell? a := (cell_alloc_some _ a o0 h)
  have e2 : ((w.alloc o0).alloc o1).cell? a = w.cell? a := (cell_alloc_some _ a o1 (by rw [e1]; exact h)).trans e1
  have e3 : (((w.alloc o0).alloc o1).alloc o2).cell? a = w.cell? a := (cell_alloc_some _ a o2 (by rw [e2]; exact h)).trans e2
  have e4 : ((((w.alloc o0).alloc o1).alloc o2).alloc o3).cell? a = w.cell? a := (cell_alloc_some _ a o3 (by rw [e3]; exact h)).trans e3
  have e5 : (((((w.alloc o0).alloc o1).alloc o2).alloc o3).alloc o4).cell? a = w.cell? a := (cell_alloc_some _ a o4 (by rw [e4]; exact h)).trans e4
  have e6 : ((((((w.alloc o0).alloc o1).alloc o2).alloc o3).alloc o4).alloc o5).cell? a = w.cell? a := (cell_alloc_some _ a o5 (by rw [e5]; exact h)).trans e5
  have e7 : (((((((w.alloc o0).alloc o1).alloc o2).alloc o3).alloc o4).alloc o5).alloc o6).cell? a = w.cell? a := (cell_alloc_some _ a o6 (by rw [e6]; exact h)).trans e6
  have e8 : ((((((((w.alloc o0).alloc o1).alloc o2).alloc o3).alloc o4).alloc o5).alloc o6).alloc o7).cell? a = w.cell? a := (cell_alloc_some _ a o7 (by rw [e7]; exact h)).trans e7
  have e9 : (((((((((w.alloc o0).alloc o1).alloc o2).alloc o3).alloc o4).alloc o5).alloc o6).alloc o7).alloc o8).cell? a = w.cell? a := (cell_alloc_some _ a o8 (by rw [e8]; exact h)).trans e8
  have e10 : ((((((((((w.alloc o0).alloc o1).alloc o2).alloc o3).alloc o4).alloc o5).alloc o6).alloc o7).alloc o8).alloc o9).cell? a = w.cell? a := (cell_alloc_some _ a o9 (by rw [e9]; exact h)).trans e9
  have e11 : (((((((((((w.alloc o0).alloc o1).alloc o2).alloc o3).alloc o4).alloc o5).alloc o6).alloc o7).alloc o8).alloc o9).alloc o10).cell? a = w.cell? a := (cell_alloc_some _ a o10 (by rw [e10]; exact h)).trans e10
  exact e11
@[go_sem] theorem cell_alloc_some12 (w : World) (a : Addr) (o0 o1 o2 o3 o4 o5 o6 o7 o8 o9 o10 o11 : Obj) (h : (w.cell? a).isSome = true) : ((((((((((((w.alloc o0).alloc o1).alloc o2).alloc o3).alloc o4).alloc o5).alloc o6).alloc o7).alloc o8).alloc o9).alloc o10).alloc o11).cell? a = w.cell? a := by
  have e1 : (w.alloc o0).cell? a = w.cell? a := (cell_alloc_some _ a o0 h)
  have e2 : ((w.alloc o0).alloc o1).cell? a = w.cell? a := (cell_alloc_some _ a o1 (by rw [e1]; exact h)).trans e1
  have e3 : (((w.alloc o0).alloc o1).alloc o2).cell? a = w.cell? a := (cell_alloc_some _ a o2 (by rw [e2]; exact h)).trans e2
  have e4 : ((((w.alloc o0).alloc o1).alloc o2).alloc o3).cell? a = w.cell? a := (cell_alloc_some _ a o3 (by rw [e3]; exact h)).trans e3
  have e5 : (((((w.alloc o0).alloc o1).alloc o2).alloc o3).alloc o4).cell? a = w.cell? a := (cell_alloc_some _ a o4 (by rw [e4]; exact h)).trans e4
  have e6 : ((((((w.alloc o0).alloc o1).alloc o2).alloc o3).alloc o4).alloc o5).cell? a = w.cell? a := (cell_alloc_some _ a o5 (by rw [e5]; exact h)).trans e5
  have e7 : (((((((w.alloc o0).alloc o1).alloc o2).alloc o3).alloc o4).alloc o5).alloc o6).cell? a = w.cell? a := (cell_alloc_some _ a o6 (by rw [e6]; exact h)).trans e6
  have e8 : ((((((((w.alloc o0).alloc o1).alloc o2).alloc o3).alloc o4).alloc o5).alloc o6).alloc o7).cell? a = w.cell? a := (cell_alloc_some _ a o7 (by rw [e7]; exact h)).trans e7
  have e9 : (((((((((w.alloc o0).alloc o1).alloc o2).alloc o3).alloc o4).alloc o5).alloc o6).alloc o7).alloc o8).cell? a = w.cell? a := (cell_alloc_some _ a o8 (by rw [e8]; exact h)).trans e8
  have e10 : ((((((((((w.alloc o0).alloc o1).alloc o2).alloc o3).alloc o4).alloc o5).alloc o6).alloc o7).alloc o8).alloc o9).cell? a = w.cell? a := (cell_alloc_some _ a o9 (by rw [e9]; exact h)).trans e9
  have e11 : (((((((((((w.alloc o0).alloc o1).alloc o2).alloc o3).alloc o4).alloc o5).alloc o6).alloc o7).alloc o8).alloc o9).alloc o10).cell? a = w.cell? a := (cell_alloc_some _ a o10 (by rw [e10]; exact h)).trans e10
  have e12 : ((((((((((((w.alloc o0).alloc o1).alloc o2).alloc o3).alloc o4).alloc o5).alloc o6).alloc o7).alloc o8).alloc o9).alloc o10).alloc o11).cell? a = w.cell? a := (cell_alloc_some _ a o11 (by rw [e11]; exact h)).trans e11
  exact e12
theorem plainAt_grow (w : World) (b : Nat) (o : Obj) (h : plainAt w b = true) : plainAt (w.alloc o) b = true := by
  obtain ⟨c, t, hb⟩ := plainAt_inv h
  have hl : b < w.heap.size := (Array.getElem?_eq_some_iff.1 hb).1
  unfold plainAt
  rw [Below.heap_alloc _ _ _ hl]
  exact h
@[go_sem] theorem plainAt_alloc2 (w : World) (b : Nat) (o0 o1 : Obj) (h : plainAt w b = true) : plainAt ((w.alloc o0).alloc o1) b = true := (plainAt_grow _ _ o1 (plainAt_grow _ _ o0 h))
@[go_sem] theorem plainAt_alloc3 (w : World) (b : Nat) (o0 o1 o2 : Obj) (h : plainAt w b = true) : plainAt (((w.alloc o0).alloc o1).alloc o2) b = true := (plainAt_grow _ _ o2 (plainAt_grow _ _ o1 (plainAt_grow _ _ o0 h)))
@[go_sem] theorem plainAt_alloc4 (w : World) (b : Nat) (o0 o1 o2 o3 : Obj) (h : plainAt w b = true) : plainAt ((((w.alloc o0).alloc o1).alloc o2).alloc o3) b = true := (plainAt_grow _ _ o3 (plainAt_grow _ _ o2 (plainAt_grow _ _ o1 (plainAt_grow _ _ o0 h))))
@[go_sem] theorem plainAt_alloc5 (w : World) (b : Nat) (o0 o1 o2 o3 o4 : Obj) (h : plainAt w b = true) : plainAt (((((w.alloc o0).alloc o1).alloc o2).alloc o3).alloc o4) b = true := (plainAt_grow _ _ o4 (plainAt_grow _ _ o3 (plainAt_grow _ _ o2 (plainAt_grow _ _ o1 (plainAt_grow _ _ o0 h)))))
@[go_sem] theorem plainAt_alloc6 (w : World) (b : Nat) (o0 o1 o2 o3 o4 o5 : Obj) (h : plainAt w b = true) : plainAt ((((((w.alloc o0).alloc o1).alloc o2).alloc o3).alloc o4).alloc o5) b = true := (plainAt_grow _ _ o5 (plainAt_grow _ _ o4 (plainAt_grow _ _ o3 (plainAt_grow _ _ o2 (plainAt_grow _ _ o1 (plainAt_grow _ _ o0 h))))))
@[go_sem] theorem plainAt_alloc7 (w : World) (b : Nat) (o0 o1 o2 o3 o4 o5 o6 : Obj) (h : plainAt w b = true) : plainAt (((((((w.alloc o0).alloc o1).alloc o2).alloc o3).alloc o4).alloc o5).alloc o6) b = true := (plainAt_grow _ _ o6 (plainAt_grow _ _ o5 (plainAt_grow _ _ o4 (plainAt_grow _ _ o3 (plainAt_grow _ _ o2 (plainAt_grow _ _ o1 (plainAt_grow _ _ o0 h)))))))
@[go_sem] theorem plainAt_alloc8 (w : World) (b : Nat) (o0 o1 o2 o3 o4 o5 o6 o7 : Obj) (h : plainAt w b = true) : plainAt ((((((((w.alloc o0).alloc o1).alloc o2).alloc o3).alloc o4).alloc o5).alloc o6).alloc o7) b = true := (plainAt_grow _ _ o7 (plainAt_grow _ _ o6 (plainAt_grow _ _ o5 (plainAt_grow _ _ o4 (plainAt_grow _ _ o3 (plainAt_grow _ _ o2 (plainAt_grow _ _ o1 (plainAt_grow _ _ o0 h))))))))
@[go_sem] theorem plainAt_alloc9 (w : World) (b : Nat) (o0 o1 o2 o3 o4 o5 o6 o7 o8 : Obj) (h : plainAt w b = true) : plainAt (((((((((w.alloc o0).alloc o1).alloc o2).alloc o3).alloc o4).alloc o5).alloc o6).alloc o7).alloc o8) b = true := (plainAt_grow _ _ o8 (plainAt_grow _ _ o7 (plainAt_grow _ _ o6 (plainAt_grow _ _ o5 (plainAt_grow _ _ o4 (plainAt_grow _ _ o3 (plainAt_grow _ _ o2 (plainAt_grow _ _ o1 (plainAt_grow _ _ o0 h)))))))))
@[go_sem] theorem plainAt_alloc10 (w : World) (b : Nat) (o0 o1 o2 o3 o4 o5 o6 o7 o8 o9 : Obj) (h : plainAt w b = true) : plainAt ((((((((((w.alloc o0).alloc o1).alloc o2).alloc o3).alloc o4).alloc o5).alloc o6).alloc o7).alloc o8).alloc o9) b = true := (plainAt_grow _ _ o9 (plainAt_grow _ _ o8 (plainAt_grow _ _ o7 (plainAt_grow _ _ o6 (plainAt_grow _ _ o5 (plainAt_grow _ _ o4 (plainAt_grow _ _ o3 (plainAt_grow _ _ o2 (plainAt_grow _ _ o1 (plainAt_grow _ _ o0 h))))))))))
@[go_sem] theorem plainAt_alloc11 (w : World) (b : Nat) (o0 o1 o2 o3 o4 o5 o6 o7 o8 o9 o10 : Obj) (h : plainAt w b = true) : plainAt (((((((((((w.alloc o0).alloc o1).alloc o2).alloc o3).alloc o4).alloc o5).alloc o6).alloc o7).alloc o8).alloc o9).alloc o10) b = true := (plainAt_grow _ _ o10 (plainAt_grow _ _ o9 (plainAt_grow _ _ o8 (plainAt_grow _ _ o7 (plainAt_grow _ _ o6 (plainAt_grow _ _ o5 (plainAt_grow _ _ o4 (plainAt_grow _ _ o3 (plainAt_grow _ _ o2 (plainAt_grow _ _ o1 (plainAt_grow _ _ o0 h)))))))))))
@[go_sem] theorem plainAt_alloc12 (w : World) (b : Nat) (o0 o1 o2 o3 o4 o5 o6 o7 o8 o9 o10 o11 : Obj) (h : plainAt w b = true) : plainAt ((((((((((((w.alloc o0).alloc o1).alloc o2).alloc o3).alloc o4).alloc o5).alloc o6).alloc o7).alloc o8).alloc o9).alloc o10).alloc o11) b = true := (plainAt_grow _ _ o11 (plainAt_grow _ _ o10 (plainAt_grow _ _ o9 (plainAt_grow _ _ o8 (plainAt_grow _ _ o7 (plainAt_grow _ _ o6 (plainAt_grow _ _ o5 (plainAt_grow _ _ o4 (plainAt_grow _ _ o3 (plainAt_grow _ _ o2 (plainAt_grow _ _ o1 (plainAt_grow _ _ o0 h))))))))))))
end Go.Proofs.YtghofdhhhbbaaaaGreatDoor.Base
