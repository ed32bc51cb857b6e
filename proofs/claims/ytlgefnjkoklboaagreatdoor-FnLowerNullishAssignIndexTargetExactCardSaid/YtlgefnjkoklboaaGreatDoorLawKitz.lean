/- What a law starts from and asks at its end, by ownership. No condition. -/
import Derived.Test.YtlgefnjkoklboaaGreatDoorOwn
import Derived.Test.YtlgefnjkoklboaaGreatDoorDeepCells
import Derived.Test.YtlgefnjkoklboaaGreatDoorRows
import Derived.Test.YtlgefnjkoklboaaGreatDoorUse
import Derived.Test.YtlgefnjkoklboaaGreatDoorKitz
namespace Go.Proofs.YtlgefnjkoklboaaGreatDoor.Use
open Go.ChangeShapes Go.WideShapes Go.ChangeAt Go.RowKit Go.Sort Own
set_option linter.unusedVariables false
/-- What recordUsage reads of a parser's cells. -/
structure Ready (PC : Array Value) (sb n cap : Nat) : Prop where
  dead : PC[350]? = some (.bool false)
  part : PC[105]? = some (.pointer none)
  ts : PC[32]? = some (.bool false)
  syms : PC[106]? = some (.slice (some ⟨sb, 0, none⟩) n cap)
/-- The counts, symbol i counted once more. -/
def bumped (C : Array Value) (i c : Nat) : Array Value := C.setIfInBounds (i * 10 + 4) (.int .u32 ((c + 1 : Nat) : Int))
theorem kept_own {w0 w w' : World} {L : List Rw} {X : Nat → Obj → Prop} (h : Own w0 w L X) (i : Nat) {b : Nat} {o o' : Obj} (hi : L[i]? = some (b, o)) (hk : Base.KeptBut [b] w w') (hb : w'.heap[b]? = some o') : Own w0 w' (L.set i (b, o')) X :=
  h.turn i hi hk.size hk.os hk.tape hk.output hb (fun k hk1 hk2 => hk.block k hk2 (by simpa using hk1))
theorem bump_le (uc : Nat → Nat) (i c : Nat) (h : ∀ k, uc k ≤ c) : ∀ k, bump uc i k ≤ c + 1 := fun k => by
  unfold bump
  have := h k
  split <;> omega
theorem sum2 {n i j : Nat} (hi : i < n) (hj : j < n) : l131.sumTo (bump (bump (fun _ => 0) i) j) n = 2 := by
  rw [sum_bump, sum_bump, sum_zero, if_pos hi, if_pos hj]
theorem le2 (i j : Nat) (n : Nat) : ∀ k, k < n → bump (bump (fun _ => 0) i) j k ≤ 4294967295 := fun k _ =>
  Nat.le_trans (bump_le _ _ 1 (bump_le _ _ 0 (fun _ => Nat.le_refl 0)) k) (by decide)
theorem le0 (n : Nat) : ∀ k, k < n → (fun _ => 0 : Nat → Nat) k ≤ 4294967295 := fun k _ => Nat.zero_le _
theorem two_e (i : Nat) : bump (bump (fun _ => 0) i) i i = 2 := by simp [bump]
theorem Cnt.bumped {C : Array Value} {n i c : Nat} {uc : Nat → Nat} (h : Cnt C n uc) (hi : i < n) (hc : uc i = c) : Cnt (bumped C i c) n (bump uc i) := h.set' hi hc

def usagePost (pb sb n cap : Nat) (PC C : Array Value) (i c : Nat) (src : Int) (w0 : World) (X : Nat → Obj → Prop) (e : Ending) (w' : World) : Prop :=
  e = .returned (.tuple #[]) ∧ Own w0 w' [row (pb) 178 PC, row (sb) 196 (bumped C i c)] X
set_option maxRecDepth 100000 in
theorem usage (pb sb n cap : Nat) (PC C : Array Value) (i c : Nat) (src : Int) (w0 w : World) (X : Nat → Obj → Prop) (hO : Own w0 w [row (pb) 178 PC, row (sb) 196 C] X) (hR : Ready PC sb n cap) (hn : n ≤ 4294967295) (hi : i < n) (hc : C[i * 10 + 4]? = some (.int .u32 (c : Int))) (hcm : c < 4294967295) :
    Calls Tryz.prog 40 #[.pointer (some ⟨pb, 0, none⟩), .agg #[.int .u32 src, .int .u32 (i : Int)]] w (usagePost pb sb n cap PC C i c src w0 X) := by
  refine Calls.mono (recordUsage pb sb n cap i c src C w ⟨hO.cell 0 rfl 350 hR.dead, hO.cell 0 rfl 105 hR.part, hO.cell 0 rfl 32 hR.ts, hO.cell 0 rfl 106 hR.syms⟩ hi hn (hO.ne 0 1 rfl rfl (by decide)) (hO.rowAt 1 rfl) hc hcm) ?_
  rintro e w' ⟨rfl, hk, hr⟩
  exact ⟨rfl, kept_own hO 1 rfl hk hr⟩

def newParserOPost (x : Int) (n : Nat) (ps pj : Int) (w0 : World) (X : Nat → Obj → Prop) (e : Ending) (w' : World) : Prop :=
  ∃ pb : Nat, ∃ sb : Nat, ∃ mp : Nat, ∃ PC : Array Value, ∃ C : Array Value, e = .returned (.pointer (some ⟨pb, 0, none⟩)) ∧ Ready PC sb n n ∧ PC[23]? = some (.int .u64 x) ∧ PC[117]? = some (.map (some mp)) ∧ Cnt C n (fun _ => 0) ∧ Own w0 w' [row (pb) 178 PC, row (sb) 196 C, (mp, .map #[⟨.string ⟨#[95, 95, 112, 111, 119]⟩, .agg #[.int .i32 0, .int .u32 ps, .int .u32 pj], 0⟩] 1)] X
set_option maxRecDepth 100000 in
theorem newParserO (x : Int) (n : Nat) (ps pj : Int) (w0 w : World) (X : Nat → Obj → Prop) (hO : Own w0 w [] X) (hn : n ≤ 65537) :
    Calls Tryz.prog 4 #[.int .u64 x, .int .i64 (n : Int), .agg #[.int .u32 ps, .int .u32 pj]] w (newParserOPost x n ps pj w0 X) := by
  refine Calls.mono (l131.newParser x n hn ps pj _) ?_
  rintro e w1 ⟨pb, sb, mb, rfl, hb1, hsb, hmb, hsp, hmp, rp, rs, rm⟩
  refine ⟨pb, sb, mb, l131.parserCells Tryz.prog x (.slice (some ⟨sb, 0, none⟩) n n) (.map (some mb)), madeCells #[.pointer none, .string ⟨#[]⟩, .int .u32 0, .int .u32 0, .int .u32 0, .int .u32 0, .int .u32 0, .int .u16 0, .int .u8 0, .int .u8 0] (n * 10), rfl, ⟨by kernel_rfl, by kernel_rfl, by kernel_rfl, by kernel_rfl⟩, by kernel_rfl, by kernel_rfl, Cnt.made (z := #[.pointer none, .string ⟨#[]⟩, .int .u32 0, .int .u32 0, .int .u32 0, .int .u32 0, .int .u32 0, .int .u16 0, .int .u8 0, .int .u8 0]) n rfl rfl, ?_⟩
  refine hO.born hb1 [row pb 178 _, row sb 196 _, (mb, .map _ 1)] ?_ ?_
  · intro r hr
    simp only [List.mem_cons, List.not_mem_nil, or_false] at hr
    rcases hr with rfl | rfl | rfl
    · exact ⟨by show w.heap.size ≤ pb; omega, rp⟩
    · exact ⟨hsb, rs⟩
    · exact ⟨hmb, rm⟩
  · have h1 : sb ≠ mb := by
      rintro rfl
      exact l131.Base.row_map rs rm
    simp
    omega

def totalOPost (pb sb n : Nat) (PC C : Array Value) (uc : Nat → Nat) (t : Int) (w0 : World) (X : Nat → Obj → Prop) (e : Ending) (w' : World) : Prop :=
  e = .returned (.int .u64 t) ∧ Own w0 w' [row (pb) 178 PC, row (sb) 196 C] X
theorem totalO (pb sb n : Nat) (PC C : Array Value) (uc : Nat → Nat) (t : Int) (w0 w : World) (X : Nat → Obj → Prop) (hO : Own w0 w [row (pb) 178 PC, row (sb) 196 C] X) (hR : Ready PC sb n n) (hn : n ≤ 65537) (hC : Cnt C n uc) (hu : ∀ i, i < n → uc i ≤ 4294967295) (ht : ((l131.sumTo uc n : Nat) : Int) = t) :
    Calls Tryz.prog 12 #[.pointer (some ⟨pb, 0, none⟩), .int .i64 (n : Int)] w (totalOPost pb sb n PC C uc t w0 X) := by
  refine Calls.mono (total1 pb sb n uc _ w hn (hO.cell 0 rfl 106 hR.syms) (Lib.hid (hC.cells (hO.rowAt 1 rfl))) (Lib.hid hu) rfl) ?_
  rintro e w' ⟨rfl, rfl⟩
  exact ⟨by rw [ht], hO⟩

def useCountOPost (pb sb n : Nat) (PC C : Array Value) (uc : Nat → Nat) (i : Nat) (t : Int) (w0 : World) (X : Nat → Obj → Prop) (e : Ending) (w' : World) : Prop :=
  e = .returned (.int .u32 t) ∧ Own w0 w' [row (pb) 178 PC, row (sb) 196 C] X
theorem useCountO (pb sb n : Nat) (PC C : Array Value) (uc : Nat → Nat) (i : Nat) (t : Int) (w0 w : World) (X : Nat → Obj → Prop) (hO : Own w0 w [row (pb) 178 PC, row (sb) 196 C] X) (hR : Ready PC sb n n) (hn : n ≤ 65537) (hi : i < n) (hC : Cnt C n uc) (ht : ((uc i : Nat) : Int) = t) :
    Calls Tryz.prog 16 #[.pointer (some ⟨pb, 0, none⟩), .int .i64 (i : Int)] w (useCountOPost pb sb n PC C uc i t w0 X) := by
  subst ht
  refine Calls.mono (l131.useCount pb sb n i _ w hn hi (hO.cell 0 rfl 106 hR.syms) (hC.cells (hO.rowAt 1 rfl) i hi)) ?_
  rintro e w' ⟨rfl, rfl⟩
  exact ⟨rfl, hO⟩

def noPrivOPost (p : Value) (xb ib : Nat) (tl : Int) (kb : Nat) (kl l : Int) (w0 : World) (X : Nat → Obj → Prop) (e : Ending) (w' : World) : Prop :=
  e = .returned (.tuple #[.agg #[.nilIface, .int .i32 0], .agg #[.int .i32 0], .pointer none]) ∧ Own w0 w' [row (xb) 56 #[.iface 52 (.pointer (some ⟨ib, 0, none⟩)), .int .i32 tl, .iface 40 (.pointer (some ⟨kb, 0, none⟩)), .int .i32 kl, .int .i32 0, .int .u8 0, .bool false, .bool false, .bool false]] X
theorem noPrivO (p : Value) (xb ib : Nat) (tl : Int) (kb : Nat) (kl l : Int) (w0 w : World) (X : Nat → Obj → Prop) (hO : Own w0 w [row (xb) 56 #[.iface 52 (.pointer (some ⟨ib, 0, none⟩)), .int .i32 tl, .iface 40 (.pointer (some ⟨kb, 0, none⟩)), .int .i32 kl, .int .i32 0, .int .u8 0, .bool false, .bool false, .bool false]] X)  :
    Calls Tryz.prog 20 #[p, .agg #[.iface 38 (.pointer (some ⟨xb, 0, none⟩)), .int .i32 l]] w (noPrivOPost p xb ib tl kb kl l w0 X) := by
  refine Calls.mono (noPrivIx p xb kb l kl w (hO.cell 0 rfl 2 rfl)) ?_
  rintro e w' ⟨rfl, hb⟩
  exact ⟨rfl, hO.step hb⟩

def ixCopyOPost (d : Nat) (l s i : Int) (kv og td kd tg kg : Nat) (tl kl : Int) (w0 : World) (X : Nat → Obj → Prop) (e : Ending) (w' : World) : Prop :=
  e = .returned (.pointer (some ⟨d, 0, none⟩)) ∧ Own w0 w' [row (d) 56 #[.iface 52 (.pointer (some ⟨td, 0, none⟩)), .int .i32 l, .iface 40 (.pointer (some ⟨kd, 0, none⟩)), .int .i32 l, .int .i32 0, .int .u8 0, .bool false, .bool false, .bool false], row (og) 56 #[.iface 52 (.pointer (some ⟨tg, 0, none⟩)), .int .i32 tl, .iface 40 (.pointer (some ⟨kg, 0, none⟩)), .int .i32 kl, .int .i32 0, .int .u8 0, .bool false, .bool false, .bool false], row (td) 180 #[.int .u32 s, .int .u32 i, .bool false, .bool false, .bool false], row (tg) 180 #[.int .u32 s, .int .u32 i, .bool false, .bool false, .bool false], row (kd) 182 #[.float .f64 kv], row (kg) 182 #[.float .f64 kv]] X
theorem ixCopyO (d : Nat) (l s i : Int) (kv og td kd tg kg : Nat) (tl kl : Int) (w0 w : World) (X : Nat → Obj → Prop) (hO : Own w0 w [row (d) 56 #[.iface 52 (.pointer (some ⟨td, 0, none⟩)), .int .i32 l, .iface 40 (.pointer (some ⟨kd, 0, none⟩)), .int .i32 l, .int .i32 0, .int .u8 0, .bool false, .bool false, .bool false], row (og) 56 #[.iface 52 (.pointer (some ⟨tg, 0, none⟩)), .int .i32 tl, .iface 40 (.pointer (some ⟨kg, 0, none⟩)), .int .i32 kl, .int .i32 0, .int .u8 0, .bool false, .bool false, .bool false], row (td) 180 #[.int .u32 s, .int .u32 i, .bool false, .bool false, .bool false], row (tg) 180 #[.int .u32 s, .int .u32 i, .bool false, .bool false, .bool false], row (kd) 182 #[.float .f64 kv], row (kg) 182 #[.float .f64 kv]] X)  :
    Calls Tryz.prog 14 #[.agg #[.iface 38 (.pointer (some ⟨d, 0, none⟩)), .int .i32 l], .int .i32 l, .agg #[.int .u32 s, .int .u32 i], .float .f64 kv, .pointer (some ⟨og, 0, none⟩)] w (ixCopyOPost d l s i kv og td kd tg kg tl kl w0 X) := by
  refine Calls.mono (indexCopy d td kd og tg kg kv l s i tl kl w (hO.cell 0 rfl 0 rfl) (hO.cell 0 rfl 1 rfl) (hO.cell 0 rfl 2 rfl) (hO.cell 0 rfl 3 rfl) (hO.cell 0 rfl 5 rfl)
    (hO.cell 2 rfl 0 rfl) (hO.cell 2 rfl 1 rfl) (hO.cell 4 rfl 0 rfl) (hO.cell 1 rfl 0 rfl) (hO.cell 1 rfl 1 rfl) (hO.cell 1 rfl 2 rfl) (hO.cell 1 rfl 3 rfl)
    (hO.plain 0 rfl) (hO.plain 1 rfl) (hO.plain 2 rfl) (hO.plain 3 rfl) (hO.plain 4 rfl) (hO.plain 5 rfl) (hO.ne 0 1 rfl rfl (by decide)) (hO.ne 2 3 rfl rfl (by decide)) (hO.ne 4 5 rfl rfl (by decide))) ?_
  rintro e w' ⟨rfl, hb⟩
  exact ⟨rfl, hO.step hb⟩

end Go.Proofs.YtlgefnjkoklboaaGreatDoor.Use
