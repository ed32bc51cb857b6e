/- An array of items. No condition. -/
import Derived.Test.YtcbdjbjbikiaeaaDoorItm
import Derived.Test.YtcbdjbjbikiaeaaDoorOwn
import Derived.Test.YtcbdjbjbikiaeaaDoorOwnK
import Derived.Test.YtcbdjbjbikiaeaaDoorLoop
import Derived.Test.YtcbdjbjbikiaeaaDoorApp
import Derived.Test.YtcbdjbjbikiaeaaDoorDeepCells
import Derived.Test.YtcbdjbjbikiaeaaDoorRows
import Derived.Test.YtcbdjbjbikiaeaaDoorDead
namespace Go.Proofs.YtcbdjbjbikiaeaaDoor.Use
open Go.ChangeShapes Go.WideShapes Go.ChangeAt Go.RowKit Go.Sort Own
set_option linter.unusedVariables false
def expZ : Array Value := #[.nilIface, .int .i32 0]
theorem infoExp : (Tryd.prog.info? 30).map (fun i => (i.zero, i.size, i.bytes)) = some (some (.agg expZ), 2, 24) := by kernel_rfl
def itF (t b : Nat → Nat) (i : Nat) : List Value := [.iface (t i) (.pointer (some ⟨(b i), 0, none⟩)), .int .i32 (2 * (i : Int))]
theorem itF_len (t b : Nat → Nat) (i : Nat) : (itF t b i).length = 2 := rfl
def itR (t b : Nat → Nat) (i g : Nat) : Array Value := full expZ (tab (itF t b) i) g
section
variable {t b : Nat → Nat} {i n g : Nat}
theorem itR_at0 (h : i < n) : (itR t b n g)[i * 2]? = some (.iface (t i) (.pointer (some ⟨(b i), 0, none⟩))) := full_at (tab_at (itF_len t b) h (o := 0) rfl)
theorem itR_at1 (h : i < n) : (itR t b n g)[i * 2 + 1]? = some (.int .i32 (2 * (i : Int))) := full_at (tab_at (itF_len t b) h (o := 1) rfl)
theorem itR_z0 : (itR t b i (g + 1))[i * 2]? = some .nilIface := by
  have := full_room (z := expZ) (l := tab (itF t b) i) (c := g) (o := 0) rfl
  rwa [tab_length (itF_len t b) i, Nat.add_zero] at this
theorem itR_z1 : (itR t b i (g + 1))[i * 2 + 1]? = some (.int .i32 0) := by
  have := full_room (z := expZ) (l := tab (itF t b) i) (c := g) (o := 1) rfl
  rwa [tab_length (itF_len t b) i] at this
theorem itR_next (t' b' : Nat → Nat) (u v : Nat) (ht : ∀ j, j < i → t' j = t j) (hb : ∀ j, j < i → b' j = b j) (hu : t' i = u) (hv : b' i = v) :
    ((itR t b i (g + 1)).setIfInBounds (i * 2) (.iface u (.pointer (some ⟨v, 0, none⟩)))).setIfInBounds (i * 2 + 1) (.int .i32 (2 * (i : Int))) = itR t' b' (i + 1) g := by
  subst hu
  subst hv
  have := full_next2 (z := expZ) (l := tab (itF t b) i) (c := g) (.iface (t' i) (.pointer (some ⟨(b' i), 0, none⟩))) (.int .i32 (2 * (i : Int))) rfl
  rw [tab_length (itF_len t b) i] at this
  unfold itR
  rw [this, tab_succ, tab_congr (f := itF t' b') (g := itF t b) (fun j hj => by unfold itF; rw [ht j hj, hb j hj])]
  rfl
theorem itR_congr {t' b' : Nat → Nat} (h : ∀ j, j < n → t' j = t j ∧ b' j = b j) : itR t b n g = itR t' b' n g := by
  unfold itR
  rw [tab_congr (f := itF t b) (g := itF t' b') (fun j hj => by unfold itF; rw [(h j hj).1, (h j hj).2])]
end
theorem makeExps (n : Nat) (hn : n ≤ 1048576) (w : World) : (Instr.makeSlice 45 (.int .i64 (n : Int)) (.int .i64 (n : Int))).run Tryd.prog w = .ok (.slice (some ⟨w.heap.size, 0, none⟩) n n) (w.alloc (.cells (full expZ [] n) 30)) := by
  obtain ⟨i, hi, hzz⟩ := Option.map_eq_some_iff.1 infoExp
  simp only [Prod.mk.injEq] at hzz
  exact run_mk_full w 45 30 i (.agg expZ) 2 24 Tryd.underlying45 hi hzz.1 hzz.2.1 hzz.2.2 rfl .i64 .i64 n n (Nat.le_refl _) (by omega) (by omega)

end Go.Proofs.YtcbdjbjbikiaeaaDoor.Use
