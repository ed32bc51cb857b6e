/- The shape, told; the copy of the splits. No condition. -/
import Derived.Test.YtdbnnpoffpipjaaBs0
import Derived.Test.YtdbnnpoffpipjaaBsm
import Derived.Test.YtdbnnpoffpipjaaBsh
import Derived.Test.YtdbnnpoffpipjaaLv
import Derived.Test.YtdbnnpoffpipjaaFin
import Derived.Test.YtdbnnpoffpipjaaFd
import Derived.Test.YtdbnnpoffpipjaaFn1
import Derived.Test.YtdbnnpoffpipjaaFf1
import Derived.Test.YtdbnnpoffpipjaaJn
import Derived.Test.YtdbnnpoffpipjaaTre
import Derived.Test.YtdbnnpoffpipjaaLoop
import Derived.Test.YtdbnnpoffpipjaaAppL
import Derived.Test.YtdbnnpoffpipjaaApp
import Derived.Test.YtdbnnpoffpipjaaOwnK
import Derived.Test.YtdbnnpoffpipjaaOwn
import Derived.Test.YtdbnnpoffpipjaaDeepCells
import Derived.Test.YtdbnnpoffpipjaaRows
namespace Go.Proofs.Ytdbnnpoffpipjaa.Use
open Go.ChangeShapes Go.WideShapes Go.ChangeAt Go.RowKit Go.Sort Own
set_option linter.unusedVariables false
theorem bs0 (D : Dat) (n lb : Nat) (hn4 : n ≤ 4096) (sa : Option Addr) : ∀ (d lo hi : Nat), hi - lo = d → ∀ (w0 w : World) (X : Nat → Obj → Prop), Own w0 w [] X → X lb (.cells (lvR D n 0) 35 (0, 0)) → lo < hi → hi ≤ n → Calls Try.prog 16 #[.slice (some ⟨lb, 0, none⟩) n n, .int .i64 (lo : Int), .int .i64 (hi : Int), .slice sa 0 0] w (bsPost D lo hi w0 X) := by
  intro d
  induction d using Nat.strongRecOn with
  | ind d ih =>
    intro lo hi hd w0 w X hO hlv hlo hhi
    exact bsS0 D n lb sa lo hi w0 w X hO hlv hlo hhi hn4 (fun lo2 hi2 w0 w X hO hlv h1 h2 h3 => ih (hi2 - lo2) (by omega) lo2 hi2 rfl w0 w X hO hlv h1 h2)

theorem bsm (D : Dat) (n lb : Nat) (hn4 : n ≤ 4096) (sb m : Nat) (V : Nat → Nat) (hm : 0 < m) (hm6 : m ≤ 65536) (hV9 : ∀ i : Nat, i < m → V i < 65536) : ∀ (d lo hi : Nat), hi - lo = d → ∀ (w0 w : World) (X : Nat → Obj → Prop), Own w0 w [] X → X lb (.cells (lvR D n 0) 35 (0, 0)) → X sb (.cells (spR V m) 73 (0, 0)) → lo < hi → hi ≤ n → Calls Try.prog 16 #[.slice (some ⟨lb, 0, none⟩) n n, .int .i64 (lo : Int), .int .i64 (hi : Int), .slice (some ⟨sb, 0, none⟩) m m] w (bsPost D lo hi w0 X) := by
  intro d
  induction d using Nat.strongRecOn with
  | ind d ih =>
    intro lo hi hd w0 w X hO hlv hsp hlo hhi
    exact bsSm D n lb sb m V lo hi w0 w X hO hlv hsp hlo hhi hn4 hm hm6 hV9 (fun lo2 hi2 w0 w X hO hlv hsp h1 h2 h3 => ih (hi2 - lo2) (by omega) lo2 hi2 rfl w0 w X hO hlv hsp h1 h2)

theorem infoU16 : (Try.prog.info? 73).map (fun i => (i.zero, i.size, i.bytes)) = some (some (.int .u16 0), 1, 2) := by kernel_rfl
theorem makeU16s (n : Nat) (hn : n ≤ 1048576) (w : World) : (Instr.makeSlice 51 (.int .i64 (n : Int)) (.int .i64 (n : Int))).run Try.prog w = .ok (.slice (some ⟨w.heap.size, 0, none⟩) n n) (w.alloc (.cells (full u16Z [] n) 73)) := by
  obtain ⟨i, hi, z1, z2, z3⟩ := info_parts infoU16
  exact run_mk_full w 51 73 i (.int .u16 0) 1 2 Try.underlying51 hi z1 z2 z3 rfl .i64 .i64 n n (Nat.le_refl _) (by omega) (by omega)
def copyU16Post (sa : Addr) (n cp : Nat) (U : Nat → Nat) (w0 : World) (X : Nat → Obj → Prop) (e : Ending) (w' : World) : Prop :=
  ∃ ub : Nat, e = .returned (.slice (some ⟨ub, 0, none⟩) n n) ∧ Own w0 w' [row (ub) 73 (spR U n)] X
set_option maxRecDepth 100000 in
set_option maxHeartbeats 1000000 in
theorem copyU16 (sa : Addr) (n cp : Nat) (U : Nat → Nat) (w0 w : World) (X : Nat → Obj → Prop) (hO : Own w0 w [] X) (hn : n ≤ 65536) (hB : ∀ i, i < n → w0.cell? (sa.add i) = some (.int .u16 (U i : Int))) :
    Calls Try.prog 15 #[.slice (some sa) n cp] w (copyU16Post sa n cp U w0 X) := by
  have hmk := makeU16s n (by omega)
  have hn9 : (n : Int) ≤ 65536 := by omega
  have heq := fun w => Lib.run_eql_slice_nil (P := Try.prog) w
  have HB := Lib.hid hB
  clear hB
  go_enter Try.func15, Try.ntmps15
  go_wp2
  go_loopg [4] n (fun gf s4 wx => ∃ k : Nat, s4 = .int .i64 (k : Int) ∧ k + gf = n ∧ Own w0 wx [row w.heap.size 73 (full u16Z (tab (spF U) k) gf)] X)
  case atStart => exact ⟨0, rfl, by omega, hO.alloc _⟩
  case round =>
    obtain ⟨k, rfl, hk, hR⟩ := hrel
    have hl := tab_length (spF_len U) k
    rw [Nat.mul_one] at hl
    by_cases hlt : k < n
    · obtain ⟨g', rfl⟩ : ∃ g', gk = g' + 1 := ⟨gk - 1, by omega⟩
      have hc := hR.cell 0 rfl _ (full_room (o := 0) rfl)
      rw [Nat.add_zero, hl] at hc
      have hf := hR.free 0 rfl k
      have hlt' : (k : Int) < n := by omega
      have ho := HB.out k hlt
      have ho2 : wr.cell? (sa.add k) = some (.int .u16 (U k : Int)) := Base.cell_belowA hR.below ho
      have H := Lib.hid hR
      clear hR ho
      go_wp2
      go_roundg g'
      case measure => omega
      case rel =>
        refine ⟨k + 1, by simp, by omega, ?_⟩
        rw [tab_succ, spF]
        exact H.out.next1 0 rfl rfl k hl.symm _
    · obtain rfl : gk = 0 := by omega
      obtain rfl : k = n := by omega
      go_wp2
      go_returns
      exact ⟨_, rfl, hR⟩

end Go.Proofs.Ytdbnnpoffpipjaa.Use
