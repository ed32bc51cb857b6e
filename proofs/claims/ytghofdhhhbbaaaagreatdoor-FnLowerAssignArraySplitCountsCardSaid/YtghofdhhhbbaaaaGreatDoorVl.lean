/- Function values in cells; what is frozen behind many new blocks. No condition. -/
import Derived.Laws.EntriesVeiled
import Derived.WalkKit
import Derived.RowKit3
namespace Go.Proofs.YtghofdhhhbbaaaaGreatDoor.Use
open Go.RowKit
@[go_sem] theorem frozen_alloc_any (w : World) (c : Array Value) (t : TypeId) (a : Addr) : (w.alloc (.cells c t)).frozen? a = w.frozen? a := frozen?_alloc_cells w c t a
end Go.Proofs.YtghofdhhhbbaaaaGreatDoor.Use
