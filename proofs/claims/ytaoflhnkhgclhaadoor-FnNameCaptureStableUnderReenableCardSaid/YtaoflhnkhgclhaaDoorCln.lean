/- zzCloneBools, told. No condition. -/
import Derived.Test.YtaoflhnkhgclhaaDoorLoop
import Derived.Test.YtaoflhnkhgclhaaDoorApp
import Derived.Test.YtaoflhnkhgclhaaDoorOwnK
import Derived.Test.YtaoflhnkhgclhaaDoorOwn
import Derived.Test.YtaoflhnkhgclhaaDoorDeepCells
import Derived.Test.YtaoflhnkhgclhaaDoorRows
import Derived.Test.YtaoflhnkhgclhaaDoorUse
import Derived.Test.YtaoflhnkhgclhaaDoorLive
namespace Go.Proofs.YtaoflhnkhgclhaaDoor.Use
open Go.ChangeShapes Go.WideShapes Go.ChangeAt Go.RowKit Go.Sort Own
set_option linter.unusedVariables false
theorem _root_.Go.Proofs.YtaoflhnkhgclhaaDoor.Base.cell_belowA {w0 w : World} {a : Addr} {v : Value} (hb : Below w0.heap.size w0 w) (h : w0.cell? a = some v) : w.cell? a = some v := by
  rw [← h]
  refine hb.cell (p := a) ?_
  simp only [World.cell?] at h
  cases hx : w0.heap[a.block]? with
  | none => rw [hx] at h; simp at h
  | some x => exact (Array.getElem?_eq_some_iff.1 hx).1

/-- A slice of bools that came in: each of its cells. -/
def BoolsAt (w : World) (x : Addr) (n : Nat) (B : Nat → Bool) : Prop := ∀ i, i < n → w.cell? (x.add i) = some (.bool (B i))
def bl (B : Nat → Bool) (i : Nat) : List Value := [.bool (B i)]
theorem bl_len (B : Nat → Bool) (i : Nat) : (bl B i).length = 1 := rfl
def bools (B : Nat → Bool) (n : Nat) : Array Value := full #[.bool false] (tab (bl B) n) 0
theorem bools_at (B : Nat → Bool) (n k : Nat) (h : k < n) : (bools B n)[k]? = some (.bool (B k)) := by
  have := full_at (z := #[.bool false]) (c := 0) (tab_at (bl_len B) h (o := 0) rfl)
  rw [Nat.mul_one, Nat.add_zero] at this
  exact this
theorem infoBool : (Tryd.prog.info? 4).map (fun i => (i.zero, i.size, i.bytes)) = some (some (.bool false), 1, 1) := by kernel_rfl
theorem makeBools (n : Nat) (hn : n ≤ 1048576) (w : World) : (Instr.makeSlice 22 (.int .i64 (n : Int)) (.int .i64 (n : Int))).run Tryd.prog w = .ok (.slice (some ⟨w.heap.size, 0, none⟩) n n) (w.alloc (.cells (full #[.bool false] [] n) 4)) := by
  obtain ⟨i, hi, z1, z2, z3⟩ := info_parts infoBool
  exact run_mk_full w 22 4 i (.bool false) 1 1 Tryd.underlying22 hi z1 z2 z3 rfl .i64 .i64 n n (Nat.le_refl _) (by omega) (by omega)

def cloneBPost (sa : Addr) (n cp : Nat) (B : Nat → Bool) (w0 : World) (X : Nat → Obj → Prop) (e : Ending) (w' : World) : Prop :=
  ∃ sc : Nat, e = .returned (.slice (some ⟨sc, 0, none⟩) n n) ∧ Own w0 w' [row (sc) 4 (bools B n)] X
set_option maxRecDepth 100000 in
set_option maxHeartbeats 1000000 in
theorem cloneB (sa : Addr) (n cp : Nat) (B : Nat → Bool) (w0 w : World) (X : Nat → Obj → Prop) (hO : Own w0 w [] X) (hn : n ≤ 4096) (hB : BoolsAt w0 sa n B) :
    Calls Tryd.prog 6 #[.slice (some sa) n cp] w (cloneBPost sa n cp B w0 X) := by
  have hmk := makeBools n (by omega)
  have heq := fun w => Lib.run_eql_slice_nil (P := Tryd.prog) w
  have HB := Lib.hid hB
  clear hB
  go_enter Tryd.func6, Tryd.ntmps6
  go_wp2
  go_loopg [4] n (fun gf s4 wx => ∃ k : Nat, s4 = .int .i64 (k : Int) ∧ k + gf = n ∧ Own w0 wx [row w.heap.size 4 (full #[.bool false] (tab (bl B) k) gf)] X)
  case atStart => exact ⟨0, rfl, by omega, hO.alloc _⟩
  case round =>
    obtain ⟨k, rfl, hk, hR⟩ := hrel
    have hl := tab_length (bl_len B) k
    rw [Nat.mul_one] at hl
    by_cases hlt : k < n
    · obtain ⟨g', rfl⟩ : ∃ g', gk = g' + 1 := ⟨gk - 1, by omega⟩
      have hc := hR.cell 0 rfl _ (full_room (o := 0) rfl)
      rw [Nat.add_zero, hl] at hc
      have hf := hR.free 0 rfl k
      have hlt' : (k : Int) < n := by omega
      have ho := HB.out k hlt
      have ho2 : wr.cell? (sa.add k) = some (.bool (B k)) := Base.cell_belowA hR.below ho
      have H := Lib.hid hR
      clear hR ho
      go_wp2
      go_roundg g'
      case measure => omega
      case rel =>
        refine ⟨k + 1, by simp, by omega, ?_⟩
        rw [tab_succ, bl]
        exact H.out.next1 0 rfl rfl k hl.symm _
    · obtain rfl : gk = 0 := by omega
      obtain rfl : k = n := by omega
      go_wp2
      go_returns
      exact ⟨_, rfl, hR⟩

end Go.Proofs.YtaoflhnkhgclhaaDoor.Use
