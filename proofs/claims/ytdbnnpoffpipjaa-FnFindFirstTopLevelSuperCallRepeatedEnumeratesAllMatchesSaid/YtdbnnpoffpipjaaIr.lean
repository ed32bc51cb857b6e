/- A range, told. No condition. -/
import Derived.Test.YtdbnnpoffpipjaaFll
import Derived.Test.YtdbnnpoffpipjaaRdr
import Derived.Test.YtdbnnpoffpipjaaFd
import Derived.Test.YtdbnnpoffpipjaaFn1
import Derived.Test.YtdbnnpoffpipjaaFf1
import Derived.Test.YtdbnnpoffpipjaaJn
import Derived.Test.YtdbnnpoffpipjaaTre
import Derived.Test.YtdbnnpoffpipjaaLoop
import Derived.Test.YtdbnnpoffpipjaaAppL
import Derived.Test.YtdbnnpoffpipjaaApp
import Derived.Test.YtdbnnpoffpipjaaOwnK
import Derived.Test.YtdbnnpoffpipjaaOwn
import Derived.Test.YtdbnnpoffpipjaaDeepCells
import Derived.Test.YtdbnnpoffpipjaaRows
namespace Go.Proofs.Ytdbnnpoffpipjaa.Use
open Go.ChangeShapes Go.WideShapes Go.ChangeAt Go.RowKit Go.Sort Own
set_option linter.unusedVariables false
theorem rgV_at {l : List Nat} {i q : Nat} (h : l[i]? = some q) : (rgV l)[i]? = some (.int .i32 (q : Int)) := by
  unfold rgV
  rw [List.getElem?_map, h]
  rfl

def isRng0Post (lo : Int) (w0 : World) (X : Nat → Obj → Prop) (e : Ending) (w' : World) : Prop :=
  e = .returned (.bool true) ∧ Own w0 w' [] X
set_option maxRecDepth 100000 in
set_option maxHeartbeats 1000000 in
theorem isRng0 (lo : Int) (w0 w : World) (X : Nat → Obj → Prop) (hO : Own w0 w [] X) (hlo : 0 ≤ lo) (hlo9 : lo ≤ 5000) :
    Calls Try.prog 11 #[.slice none 0 0, .int .i64 lo, .int .i64 lo] w (isRng0Post lo w0 X) := by
  go_enter Try.func11, Try.ntmps11
  go_wp2_with (first | (with_reducible refine Own.stay (fn := Try.f11) ?_) | fail)
  try with_reducible refine Own.Stay.mk ?_
  go_loopg [7] 1 (fun gf s7 wx => s7 = .int .i64 0 ∧ Own w0 wx [] X)
  case atStart => exact ⟨rfl, hO⟩
  obtain ⟨rfl, hO⟩ := hrel
  go_wp2_with (first | (with_reducible refine Own.stay (fn := Try.f11) ?_) | fail)
  try with_reducible refine Own.Stay.mk ?_
  refine bodyPost_ret (v := .bool true) ?_ rfl ⟨rfl, hO.sub [] (by decide)⟩
  simp [results, Try.results11, go_sem]
def isRng1Post (ob oc : Nat) (ls : List Nat) (m : Nat) (lo hi : Int) (w0 : World) (X : Nat → Obj → Prop) (e : Ending) (w' : World) : Prop :=
  e = .returned (.bool true) ∧ Own w0 w' [row (ob) 21 (full i32Z (rgV ls) oc)] X
set_option maxRecDepth 100000 in
set_option maxHeartbeats 1000000 in
theorem isRng1 (ob oc : Nat) (ls : List Nat) (m : Nat) (lo hi : Int) (w0 w : World) (X : Nat → Obj → Prop) (hO : Own w0 w [row (ob) 21 (full i32Z (rgV ls) oc)] X) (hm : ls.length = m) (hls : ∀ i : Nat, i < m → ∃ q : Nat, ls[i]? = some q ∧ (q : Int) = lo + (i : Int)) (hhi : hi = lo + (m : Int)) (hlo : 0 ≤ lo) (hlo9 : hi ≤ 5000) :
    Calls Try.prog 11 #[.slice (some ⟨ob, 0, none⟩) m (m + oc), .int .i64 lo, .int .i64 hi] w (isRng1Post ob oc ls m lo hi w0 X) := by
  go_enter Try.func11, Try.ntmps11
  have hm8 : (0 : Int) ≤ (m : Int) := by omega
  have hm9 : (m : Int) ≤ 5000 := by omega
  have hlh : ¬ hi < lo := by omega
  have hdf : hi - lo = (m : Int) := by omega
  go_wp2_with (first | (with_reducible refine Own.stay (fn := Try.f11) ?_) | fail)
  try with_reducible refine Own.Stay.mk ?_
  go_loopg [7] m (fun gf s7 wx => ∃ i : Nat, i + gf = m ∧ s7 = .int .i64 (i : Int) ∧ Own w0 wx [row (ob) 21 (full i32Z (rgV ls) oc)] X)
  case atStart => exact ⟨0, by omega, rfl, hO⟩
  obtain ⟨i, him, rfl, hO⟩ := hrel
  by_cases hlt : i < m
  · skip
    obtain ⟨gq, rfl⟩ : ∃ gq, gk = gq + 1 := ⟨gk - 1, by omega⟩
    have hlt9 : (i : Int) < (m : Int) := by omega
    have hi8 : (0 : Int) ≤ (i : Int) := by omega
    obtain ⟨q9, hq, hqe⟩ := hls i hlt
    have hwr : IntKind.i32.wrap (lo + (i : Int)) = (q9 : Int) := by rw [IntKind.wrap_i32]; omega
    obtain ⟨ix9, hix9, hax9, hjx9⟩ := hO.ix
    have ix9_0 : ix9 ob = 0 := hjx9 0 _ _ rfl
    clear hjx9
    have c9_0_i : wr.cell? ⟨ob, i, none⟩ = some (.int .i32 (q9 : Int)) := hO.cell 0 rfl (i) ((full_at (rgV_at hq)))
    have lt9_0 : ob < wr.heap.size := hO.lt 0 rfl
    have y9_0 : ∀ o, wr.frozen? ⟨ob, o, none⟩ = false := hO.free 0 rfl
    have HO := Lib.hid hO
    clear hO
    go_wp2_with (first | (with_reducible refine Own.stay (fn := Try.f11) ?_) | fail)
    try with_reducible refine Own.Stay.mk ?_
    have hO := HO.out
    clear HO hix9 hax9 ix9_0 ix9 c9_0_i lt9_0 y9_0
    go_roundg gq
    case measure => omega
    case rel => exact ⟨i + 1, by omega, by first | rfl | simp, hO⟩
  have hlt9 : ¬ (i : Int) < (m : Int) := by omega
  go_wp2_with (first | (with_reducible refine Own.stay (fn := Try.f11) ?_) | fail)
  try with_reducible refine Own.Stay.mk ?_
  refine bodyPost_ret (v := .bool true) ?_ rfl ⟨rfl, hO.sub [0] (by decide)⟩
  simp [results, Try.results11, go_sem]
end Go.Proofs.Ytdbnnpoffpipjaa.Use
