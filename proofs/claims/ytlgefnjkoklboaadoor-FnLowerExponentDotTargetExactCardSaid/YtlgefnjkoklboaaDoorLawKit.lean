/- What a law starts from and what it asks at its end, by ownership. No condition. -/
import Derived.Test.YtlgefnjkoklboaaDoorOwn
import Derived.Test.YtlgefnjkoklboaaDoorDeepCells
import Derived.Test.YtlgefnjkoklboaaDoorRows
import Derived.Test.YtlgefnjkoklboaaDoorUse
import Derived.Test.YtlgefnjkoklboaaDoorPow
import Derived.Test.YtlgefnjkoklboaaDoorPowFn
import Derived.Test.YtlgefnjkoklboaaDoorLowExp
import Derived.Test.YtlgefnjkoklboaaDoorNew
import Derived.Test.YtlgefnjkoklboaaDoorLaws
import Derived.Test.YtlgefnjkoklboaaDoorHelp
namespace Go.Proofs.YtlgefnjkoklboaaDoor.Use
open Go.ChangeShapes Go.WideShapes Go.ChangeAt Go.RowKit Go.Sort Own
set_option linter.unusedVariables false
theorem bump_le (uc : Nat → Nat) (i c : Nat) (h : ∀ k, uc k ≤ c) : ∀ k, bump uc i k ≤ c + 1 := fun k => by
  unfold bump
  have := h k
  split <;> omega
theorem sum2 {n i j : Nat} (hi : i < n) (hj : j < n) : l131.sumTo (bump (bump (fun _ => 0) i) j) n = 2 := by
  rw [sum_bump, sum_bump, sum_zero, if_pos hi, if_pos hj]
theorem le2 (i j : Nat) (n : Nat) : ∀ k, k < n → bump (bump (fun _ => 0) i) j k ≤ 4294967295 := fun k _ =>
  Nat.le_trans (bump_le _ _ 1 (bump_le _ _ 0 (fun _ => Nat.le_refl 0)) k) (by decide)
theorem two_l {i j : Nat} (h : i ≠ j) : bump (bump (fun _ => 0) i) j i = 1 := by simp [bump, h]
theorem two_r {i j : Nat} (h : i ≠ j) : bump (bump (fun _ => 0) i) j j = 1 := by simp [bump, Ne.symm h]
theorem two_e (i : Nat) : bump (bump (fun _ => 0) i) i i = 2 := by simp [bump]
theorem Cnt.bumped {C : Array Value} {n i c : Nat} {uc : Nat → Nat} (h : Cnt C n uc) (hi : i < n) (hc : uc i = c) : Cnt (bumped C i c) n (bump uc i) := h.set' hi hc

def newParserOPost (x : Int) (n : Nat) (ps : Int) (j : Nat) (w0 : World) (X : Nat → Obj → Prop) (e : Ending) (w' : World) : Prop :=
  ∃ pb : Nat, ∃ sb : Nat, ∃ mp : Nat, ∃ PC : Array Value, ∃ C : Array Value, e = .returned (.pointer (some ⟨pb, 0, none⟩)) ∧ Ready PC sb n n ∧ PC[23]? = some (.int .u64 x) ∧ PC[117]? = some (.map (some mp)) ∧ Cnt C n (fun _ => 0) ∧ Own w0 w' [row (pb) 207 PC, row (sb) 223 C, (mp, .map #[⟨.string ⟨#[95, 95, 112, 111, 119]⟩, .agg #[.int .i32 0, .int .u32 ps, .int .u32 (j : Int)], 0⟩] 1)] X
set_option maxRecDepth 100000 in
theorem newParserO (x : Int) (n : Nat) (ps : Int) (j : Nat) (w0 w : World) (X : Nat → Obj → Prop) (hO : Own w0 w [] X) (hn : n ≤ 65537) :
    Calls Tryd.prog 10 #[.int .u64 x, .int .i64 (n : Int), .agg #[.int .u32 ps, .int .u32 (j : Int)]] w (newParserOPost x n ps j w0 X) := by
  refine Calls.mono (l131.newParser x n hn ps (j : Int) _) ?_
  rintro e w1 ⟨pb, sb, mb, rfl, hb1, hsb, hmb, hsp, hmp, rp, rs, rm⟩
  refine ⟨pb, sb, mb, l131.parserCells Tryd.prog x (.slice (some ⟨sb, 0, none⟩) n n) (.map (some mb)), madeCells #[.pointer none, .string ⟨#[]⟩, .int .u32 0, .int .u32 0, .int .u32 0, .int .u32 0, .int .u32 0, .int .u16 0, .int .u8 0, .int .u8 0] (n * 10), rfl, ⟨by kernel_rfl, by kernel_rfl, by kernel_rfl, by kernel_rfl⟩, by kernel_rfl, by kernel_rfl, Cnt.made (z := #[.pointer none, .string ⟨#[]⟩, .int .u32 0, .int .u32 0, .int .u32 0, .int .u32 0, .int .u32 0, .int .u16 0, .int .u8 0, .int .u8 0]) n rfl rfl, ?_⟩
  refine hO.born hb1 [row pb 207 _, row sb 223 _, (mb, .map _ 1)] ?_ ?_
  · intro r hr
    simp only [List.mem_cons, List.not_mem_nil, or_false] at hr
    rcases hr with rfl | rfl | rfl
    · exact ⟨by show w.heap.size ≤ pb; omega, rp⟩
    · exact ⟨hsb, rs⟩
    · exact ⟨hmb, rm⟩
  · have h1 : sb ≠ mb := by
      rintro rfl
      exact l131.Base.row_map rs rm
    simp
    omega

def totalOPost (pb sb n : Nat) (PC C : Array Value) (uc : Nat → Nat) (t : Int) (w0 : World) (X : Nat → Obj → Prop) (e : Ending) (w' : World) : Prop :=
  e = .returned (.int .u64 t) ∧ Own w0 w' [row (pb) 207 PC, row (sb) 223 C] X
theorem totalO (pb sb n : Nat) (PC C : Array Value) (uc : Nat → Nat) (t : Int) (w0 w : World) (X : Nat → Obj → Prop) (hO : Own w0 w [row (pb) 207 PC, row (sb) 223 C] X) (hR : Ready PC sb n n) (hn : n ≤ 65537) (hC : Cnt C n uc) (hu : ∀ i, i < n → uc i ≤ 4294967295) (ht : ((l131.sumTo uc n : Nat) : Int) = t) :
    Calls Tryd.prog 18 #[.pointer (some ⟨pb, 0, none⟩), .int .i64 (n : Int)] w (totalOPost pb sb n PC C uc t w0 X) := by
  refine Calls.mono (total1 pb sb n uc _ w hn (hO.cell 0 rfl 106 hR.syms) (Lib.hid (hC.cells (hO.rowAt 1 rfl))) (Lib.hid hu) rfl) ?_
  rintro e w' ⟨rfl, rfl⟩
  exact ⟨by rw [ht], hO⟩

def useCountOPost (pb sb n : Nat) (PC C : Array Value) (uc : Nat → Nat) (i : Nat) (t : Int) (w0 : World) (X : Nat → Obj → Prop) (e : Ending) (w' : World) : Prop :=
  e = .returned (.int .u32 t) ∧ Own w0 w' [row (pb) 207 PC, row (sb) 223 C] X
theorem useCountO (pb sb n : Nat) (PC C : Array Value) (uc : Nat → Nat) (i : Nat) (t : Int) (w0 w : World) (X : Nat → Obj → Prop) (hO : Own w0 w [row (pb) 207 PC, row (sb) 223 C] X) (hR : Ready PC sb n n) (hn : n ≤ 65537) (hi : i < n) (hC : Cnt C n uc) (ht : ((uc i : Nat) : Int) = t) :
    Calls Tryd.prog 24 #[.pointer (some ⟨pb, 0, none⟩), .int .i64 (i : Int)] w (useCountOPost pb sb n PC C uc i t w0 X) := by
  subst ht
  refine Calls.mono (l131.useCount pb sb n i _ w hn hi (hO.cell 0 rfl 106 hR.syms) (hC.cells (hO.rowAt 1 rfl) i hi)) ?_
  rintro e w' ⟨rfl, rfl⟩
  exact ⟨rfl, hO⟩

end Go.Proofs.YtlgefnjkoklboaaDoor.Use
