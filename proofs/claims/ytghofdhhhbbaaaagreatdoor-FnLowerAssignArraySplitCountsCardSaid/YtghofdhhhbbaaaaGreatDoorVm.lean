/- What is frozen behind a new map. No condition. -/
import Derived.Test.YtghofdhhhbbaaaaGreatDoorVl
namespace Go.Proofs.YtghofdhhhbbaaaaGreatDoor.Use
open Go.RowKit
@[go_sem] theorem frozen_alloc_map (w : World) (es : Array MapEntry) (c : Nat) (a : Addr) : (w.alloc (.map es c)).frozen? a = w.frozen? a := by
  by_cases h : a.block = w.heap.size
  · have e1 : (w.alloc (.map es c)).heap[a.block]? = some (.map es c) := by rw [h]; exact (MapKept.heap_alloc w _).1
    have e2 : w.heap[a.block]? = none := by rw [h]; simp
    simp [World.frozen?, e1, e2]
  · exact World.frozen?_alloc_old _ _ _ h
theorem frozen_beyond {w : World} {b o : Nat} (h : w.heap.size ≤ b) : w.frozen? ⟨b, o, none⟩ = false := by
  have e : w.heap[b]? = none := by simp [h]
  simp [World.frozen?, e]
end Go.Proofs.YtghofdhhhbbaaaaGreatDoor.Use
