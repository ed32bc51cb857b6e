/- Uses, imports and calls of runtime helpers in dead code. No condition. -/
import Derived.Test.YtcbdjbjbikiaeaaDoorOwnK
import Derived.Test.YtcbdjbjbikiaeaaDoorOwn
import Derived.Test.YtcbdjbjbikiaeaaDoorDeepCells
import Derived.Test.YtcbdjbjbikiaeaaDoorRows
namespace Go.Proofs.YtcbdjbjbikiaeaaDoor.Use
open Go.ChangeShapes Go.WideShapes Go.ChangeAt Go.RowKit Go.Sort Own
set_option linter.unusedVariables false
/-- What the laws' parser holds: dead code, no TypeScript, the imports' map, the class's name, the two flags. -/
structure Dead (PC : Array Value) (mp cr : Nat) (r s : Bool) : Prop where
  dead : PC[350]? = some (.bool true)
  ts : PC[32]? = some (.bool false)
  imp : PC[117]? = some (.map (some mp))
  cls : PC[97]? = some (.pointer (some ⟨cr, 0, none⟩))
  rep : PC[95]? = some (.bool r)
  stat : PC[96]? = some (.bool s)
theorem infoSym : (Tryd.prog.info? 260).map (fun i => (i.zero, i.size, i.bytes)) = some (some (.agg #[.pointer none, .string ⟨#[]⟩, .int .u32 0, .int .u32 0, .int .u32 0, .int .u32 0, .int .u32 0, .int .u16 0, .int .u8 0, .int .u8 0]), 10, 48) := by kernel_rfl
theorem makeSym8 (w : World) : (Instr.makeSlice 69 (.int .i64 8) (.int .i64 8)).run Tryd.prog w = .ok (.slice (some ⟨w.heap.size, 0, none⟩) 8 8) (w.alloc (.cells (madeCells #[.pointer none, .string ⟨#[]⟩, .int .u32 0, .int .u32 0, .int .u32 0, .int .u32 0, .int .u32 0, .int .u16 0, .int .u8 0, .int .u8 0] 80) 260)) := by
  obtain ⟨i, hi, hzz⟩ := Option.map_eq_some_iff.1 infoSym
  simp only [Prod.mk.injEq] at hzz
  obtain ⟨hz, hs, hb⟩ := hzz
  have hr := run_make (P := Tryd.prog) w 69 260 i _ Tryd.underlying69 hi hz .i64 .i64 8 8 (by decide) (Int.le_refl _) (by rw [hb]; decide) (by decide)
  rw [hs] at hr
  exact hr

def usageDeadPost (pb : Nat) (PC : Array Value) (mp cr : Nat) (r s : Bool) (rs ri : Int) (w0 : World) (X : Nat → Obj → Prop) (e : Ending) (w' : World) : Prop :=
  e = .returned (.tuple #[]) ∧ Own w0 w' [row (pb) 206 PC] X
set_option maxRecDepth 100000 in
set_option maxHeartbeats 1000000 in
theorem usageDead (pb : Nat) (PC : Array Value) (mp cr : Nat) (r s : Bool) (rs ri : Int) (w0 w : World) (X : Nat → Obj → Prop) (hO : Own w0 w [row (pb) 206 PC] X) (hD : Dead PC mp cr r s) :
    Calls Tryd.prog 47 #[.pointer (some ⟨pb, 0, none⟩), .agg #[.int .u32 rs, .int .u32 ri]] w (usageDeadPost pb PC mp cr r s rs ri w0 X) := by
  go_enter Tryd.func47, Tryd.ntmps47
  have c9_0_32 : w.cell? ⟨pb, 32, none⟩ = some (.bool false) := hO.cell 0 rfl (32) (hD.ts)
  have c9_0_95 : w.cell? ⟨pb, 95, none⟩ = some (.bool r) := hO.cell 0 rfl (95) (hD.rep)
  have c9_0_96 : w.cell? ⟨pb, 96, none⟩ = some (.bool s) := hO.cell 0 rfl (96) (hD.stat)
  have c9_0_97 : w.cell? ⟨pb, 97, none⟩ = some (.pointer (some ⟨cr, 0, none⟩)) := hO.cell 0 rfl (97) (hD.cls)
  have c9_0_117 : w.cell? ⟨pb, 117, none⟩ = some (.map (some mp)) := hO.cell 0 rfl (117) (hD.imp)
  have c9_0_350 : w.cell? ⟨pb, 350, none⟩ = some (.bool true) := hO.cell 0 rfl (350) (hD.dead)
  have lt9_0 : pb < w.heap.size := hO.lt 0 rfl
  have y9_0 : ∀ o, w.frozen? ⟨pb, o, none⟩ = false := hO.free 0 rfl
  have HO := Lib.hid hO
  clear hO
  go_wp2_with (first | (with_reducible refine Own.stay (fn := Tryd.f47) ?_) | fail)
  try with_reducible refine Own.Stay.mk ?_
  have hO := HO.out
  clear HO c9_0_32 c9_0_95 c9_0_96 c9_0_97 c9_0_117 c9_0_350 lt9_0 y9_0
  generalize hW : World.alloc _ _ = W2
  have hN : Own w0 W2 [row (w.heap.size) 68 #[.int .u32 rs, .int .u32 ri], row (pb) 206 PC] X := by
    rw [← hW]
    exact (hO).alloc' _ (w.heap.size) (by simp)
  clear hW hO
  generalize w.heap.size = B1 at hN ⊢
  have hO := hN
  clear hN
  refine bodyPost_ret (v := .tuple #[]) ?_ rfl ⟨rfl, hO.sub [1] (by decide)⟩
  simp [results, Tryd.results47, go_sem]
def impWPost (pb : Nat) (PC : Array Value) (mp cr : Nat) (r s : Bool) (loc : Int) (w0 : World) (X : Nat → Obj → Prop) (e : Ending) (w' : World) : Prop :=
  ∃ b : Nat, e = .returned (.agg #[.iface 220 (.pointer (some ⟨b, 0, none⟩)), .int .i32 loc]) ∧ Own w0 w' [row (pb) 206 PC, ((mp, .map #[⟨.string ⟨#[95, 95, 115, 117, 112, 101, 114, 87, 114, 97, 112, 112, 101, 114]⟩, .agg #[.int .i32 0, .int .u32 0, .int .u32 2], 0⟩, ⟨.string ⟨#[95, 95, 115, 117, 112, 101, 114, 71, 101, 116]⟩, .agg #[.int .i32 0, .int .u32 0, .int .u32 3], 1⟩, ⟨.string ⟨#[95, 95, 112, 114, 105, 118, 97, 116, 101, 87, 114, 97, 112, 112, 101, 114]⟩, .agg #[.int .i32 0, .int .u32 0, .int .u32 4], 2⟩] 3) : Rw), row (b) 223 #[.int .u32 0, .int .u32 2, .bool false, .bool false, .bool false]] X
set_option maxRecDepth 100000 in
set_option maxHeartbeats 1000000 in
theorem impW (pb : Nat) (PC : Array Value) (mp cr : Nat) (r s : Bool) (loc : Int) (w0 w : World) (X : Nat → Obj → Prop) (hO : Own w0 w [row (pb) 206 PC, ((mp, .map #[⟨.string ⟨#[95, 95, 115, 117, 112, 101, 114, 87, 114, 97, 112, 112, 101, 114]⟩, .agg #[.int .i32 0, .int .u32 0, .int .u32 2], 0⟩, ⟨.string ⟨#[95, 95, 115, 117, 112, 101, 114, 71, 101, 116]⟩, .agg #[.int .i32 0, .int .u32 0, .int .u32 3], 1⟩, ⟨.string ⟨#[95, 95, 112, 114, 105, 118, 97, 116, 101, 87, 114, 97, 112, 112, 101, 114]⟩, .agg #[.int .i32 0, .int .u32 0, .int .u32 4], 2⟩] 3) : Rw)] X) (hD : Dead PC mp cr r s) :
    Calls Tryd.prog 52 #[.pointer (some ⟨pb, 0, none⟩), .agg #[.int .i32 loc], .string ⟨#[95, 95, 115, 117, 112, 101, 114, 87, 114, 97, 112, 112, 101, 114]⟩] w (impWPost pb PC mp cr r s loc w0 X) := by
  go_enter Tryd.func52, Tryd.ntmps52
  have c9_0_32 : w.cell? ⟨pb, 32, none⟩ = some (.bool false) := hO.cell 0 rfl (32) (hD.ts)
  have c9_0_95 : w.cell? ⟨pb, 95, none⟩ = some (.bool r) := hO.cell 0 rfl (95) (hD.rep)
  have c9_0_96 : w.cell? ⟨pb, 96, none⟩ = some (.bool s) := hO.cell 0 rfl (96) (hD.stat)
  have c9_0_97 : w.cell? ⟨pb, 97, none⟩ = some (.pointer (some ⟨cr, 0, none⟩)) := hO.cell 0 rfl (97) (hD.cls)
  have c9_0_117 : w.cell? ⟨pb, 117, none⟩ = some (.map (some mp)) := hO.cell 0 rfl (117) (hD.imp)
  have c9_0_350 : w.cell? ⟨pb, 350, none⟩ = some (.bool true) := hO.cell 0 rfl (350) (hD.dead)
  have lt9_0 : pb < w.heap.size := hO.lt 0 rfl
  have y9_0 : ∀ o, w.frozen? ⟨pb, o, none⟩ = false := hO.free 0 rfl
  have HO := Lib.hid hO
  clear hO
  go_wp2_with (first | (with_reducible refine Own.stay (fn := Tryd.f52) ?_) | (at_lookup; refine wpList_lookup_yes rfl _ _ 92 true rfl 9 87 (by kernel_rfl) (by kernel_rfl) (((HO.out.mapAt 1 rfl).alloc _).alloc _) rfl _ rfl 0 (.agg #[.int .i32 0, .int .u32 0, .int .u32 2]) (by kernel_rfl) ?_))
  try with_reducible refine Own.Stay.mk ?_
  have hO := HO.out
  clear HO c9_0_32 c9_0_95 c9_0_96 c9_0_97 c9_0_117 c9_0_350 lt9_0 y9_0
  generalize hW : World.alloc _ _ = W2
  have hN : Own w0 W2 [row (w.heap.size + 1 + 1) 87 #[.int .i32 0, .int .u32 0, .int .u32 2], row (w.heap.size + 1) 30 #[.nilIface, .int .i32 0], row (w.heap.size) 28 #[.int .i32 loc], row (pb) 206 PC, ((mp, .map #[⟨.string ⟨#[95, 95, 115, 117, 112, 101, 114, 87, 114, 97, 112, 112, 101, 114]⟩, .agg #[.int .i32 0, .int .u32 0, .int .u32 2], 0⟩, ⟨.string ⟨#[95, 95, 115, 117, 112, 101, 114, 71, 101, 116]⟩, .agg #[.int .i32 0, .int .u32 0, .int .u32 3], 1⟩, ⟨.string ⟨#[95, 95, 112, 114, 105, 118, 97, 116, 101, 87, 114, 97, 112, 112, 101, 114]⟩, .agg #[.int .i32 0, .int .u32 0, .int .u32 4], 2⟩] 3) : Rw)] X := by
    rw [← hW]
    exact (((hO).alloc' _ (w.heap.size) (by simp)).alloc' _ (w.heap.size + 1) (by simp)).alloc' _ (w.heap.size + 1 + 1) (by simp)
  clear hW hO
  generalize w.heap.size + 1 + 1 = B1_2 at hN ⊢
  generalize w.heap.size + 1 = B1_1 at hN ⊢
  generalize w.heap.size = B1 at hN ⊢
  have hO := hN
  clear hN
  have hL := hO.apart
  have hX := hO.apartX
  have HL := Lib.hid hL
  have HX := Lib.hid hX
  clear hL hX
  have hP9 := hO.pick [3] (by decide)
  have T9 := usageDead pb PC mp cr r s 0 2 _ _ _ hP9 hD
  refine Calls.mono T9 ?_
  clear hP9 T9
  rintro e u3 ⟨rfl, hQ⟩
  have hN : Own w0 u3 [row (pb) 206 PC, row (B1_2) 87 #[.int .i32 0, .int .u32 0, .int .u32 2], row (B1_1) 30 #[.nilIface, .int .i32 0], row (B1) 28 #[.int .i32 loc], ((mp, .map #[⟨.string ⟨#[95, 95, 115, 117, 112, 101, 114, 87, 114, 97, 112, 112, 101, 114]⟩, .agg #[.int .i32 0, .int .u32 0, .int .u32 2], 0⟩, ⟨.string ⟨#[95, 95, 115, 117, 112, 101, 114, 71, 101, 116]⟩, .agg #[.int .i32 0, .int .u32 0, .int .u32 3], 1⟩, ⟨.string ⟨#[95, 95, 112, 114, 105, 118, 97, 116, 101, 87, 114, 97, 112, 112, 101, 114]⟩, .agg #[.int .i32 0, .int .u32 0, .int .u32 4], 2⟩] 3) : Rw)] X := hQ.back HL.out HX.out [0, 1, 2, 4] (by decide) (by decide)
  clear hQ HL HX hO
  have hO := hN
  clear hN
  have c9_0_32 : u3.cell? ⟨pb, 32, none⟩ = some (.bool false) := hO.cell 0 rfl (32) (hD.ts)
  have c9_0_95 : u3.cell? ⟨pb, 95, none⟩ = some (.bool r) := hO.cell 0 rfl (95) (hD.rep)
  have c9_0_96 : u3.cell? ⟨pb, 96, none⟩ = some (.bool s) := hO.cell 0 rfl (96) (hD.stat)
  have c9_0_97 : u3.cell? ⟨pb, 97, none⟩ = some (.pointer (some ⟨cr, 0, none⟩)) := hO.cell 0 rfl (97) (hD.cls)
  have c9_0_117 : u3.cell? ⟨pb, 117, none⟩ = some (.map (some mp)) := hO.cell 0 rfl (117) (hD.imp)
  have c9_0_350 : u3.cell? ⟨pb, 350, none⟩ = some (.bool true) := hO.cell 0 rfl (350) (hD.dead)
  have lt9_0 : pb < u3.heap.size := hO.lt 0 rfl
  have y9_0 : ∀ o, u3.frozen? ⟨pb, o, none⟩ = false := hO.free 0 rfl
  obtain ⟨c9_1_0, c9_1_1, c9_1_2, lt9_1, y9_1, -⟩ := hO.k3 1 rfl
  obtain ⟨c9_2_0, c9_2_1, lt9_2, y9_2, -⟩ := hO.k2 2 rfl
  obtain ⟨c9_3_0, lt9_3, y9_3, -⟩ := hO.k1 3 rfl
  have HO := Lib.hid hO
  clear hO
  go_wp2_with (first | (with_reducible refine Own.stay (fn := Tryd.f52) ?_) | (at_lookup; refine wpList_lookup_yes rfl _ _ 92 true rfl 9 87 (by kernel_rfl) (by kernel_rfl) (((HO.out.mapAt 1 rfl).alloc _).alloc _) rfl _ rfl 0 (.agg #[.int .i32 0, .int .u32 0, .int .u32 2]) (by kernel_rfl) ?_))
  try with_reducible refine Own.Stay.mk ?_
  have hO := HO.out
  clear HO c9_0_32 c9_0_95 c9_0_96 c9_0_97 c9_0_117 c9_0_350 lt9_0 y9_0 c9_1_0 c9_1_1 c9_1_2 lt9_1 y9_1 c9_2_0 c9_2_1 lt9_2 y9_2 c9_3_0 lt9_3 y9_3
  generalize hW : World.alloc _ _ = W5
  have hN : Own w0 W5 [row (u3.heap.size) 223 #[.int .u32 0, .int .u32 2, .bool false, .bool false, .bool false], row (pb) 206 PC, row (B1_2) 87 #[.int .i32 0, .int .u32 0, .int .u32 2], row (B1_1) 30 #[.iface 220 (.pointer (some ⟨u3.heap.size, 0, none⟩)), .int .i32 loc], row (B1) 28 #[.int .i32 loc], ((mp, .map #[⟨.string ⟨#[95, 95, 115, 117, 112, 101, 114, 87, 114, 97, 112, 112, 101, 114]⟩, .agg #[.int .i32 0, .int .u32 0, .int .u32 2], 0⟩, ⟨.string ⟨#[95, 95, 115, 117, 112, 101, 114, 71, 101, 116]⟩, .agg #[.int .i32 0, .int .u32 0, .int .u32 3], 1⟩, ⟨.string ⟨#[95, 95, 112, 114, 105, 118, 97, 116, 101, 87, 114, 97, 112, 112, 101, 114]⟩, .agg #[.int .i32 0, .int .u32 0, .int .u32 4], 2⟩] 3) : Rw)] X := by
    rw [← hW]
    exact (((hO).set 2 rfl 0 _).set 2 rfl 1 _).alloc' _ (u3.heap.size) (by simp)
  clear hW hO
  generalize u3.heap.size = B4 at hN ⊢
  have hO := hN
  clear hN
  have z9_3_0 : W5.cell? ⟨B1_1, 0, none⟩ = some (.iface 220 (.pointer (some ⟨B4, 0, none⟩))) := hO.cell 3 rfl 0 rfl
  have z9_3_1 : W5.cell? ⟨B1_1, 1, none⟩ = some (.int .i32 loc) := hO.cell 3 rfl 1 rfl
  refine bodyPost_ret (v := .agg #[.iface 220 (.pointer (some ⟨B4, 0, none⟩)), .int .i32 loc]) ?_ rfl ⟨B4, rfl, hO.sub [1, 5, 0] (by decide)⟩
  simp [results, Tryd.results52, go_sem, z9_3_0, z9_3_1]
def rCA01E (pb : Nat) (PC : Array Value) (mp : Nat) (loc : Int) (sx : Nat) (ln : Nat) (cp : Nat) (B1_1 : Nat) (B1 : Nat) : Nat → Rega.Atoms → Value
  | 0, α => .agg #[.int .i32 loc]
  | 1, α => .pointer (some ⟨pb, 0, none⟩)
  | 2, α => .agg #[.int .i32 loc]
  | 3, α => .string ⟨#[95, 95, 115, 117, 112, 101, 114, 87, 114, 97, 112, 112, 101, 114]⟩
  | 4, α => .agg #[.iface 220 (.pointer (some ⟨α 4, 0, none⟩)), .int .i32 loc]
  | 5, α => .slice (some ⟨sx, 0, none⟩) ln cp
  | 6, α => .agg #[.iface 220 (.pointer (some ⟨α 4, 0, none⟩)), .int .i32 loc, .slice (some ⟨sx, 0, none⟩) ln cp, .int .i32 0, .int .u8 0, .int .u8 0, .bool false, .bool false]
  | 7, α => .pointer (some ⟨α 7, 0, none⟩)
  | 8, α => .iface 52 (.pointer (some ⟨α 7, 0, none⟩))
  | 9, α => .agg #[.iface 52 (.pointer (some ⟨α 7, 0, none⟩)), .int .i32 loc]
  | 10, α => undef
  | _, _ => undef
def rCA01Anc : Nat → List Nat
  | 4 => [1, 2, 3]
  | 6 => [1, 2, 3, 4, 5]
  | 7 => [1, 2, 3, 4, 5, 6]
  | 8 => [1, 2, 3, 4, 5, 6, 7]
  | 9 => [0, 1, 2, 3, 4, 5, 6, 7, 8]
  | 10 => [0, 1, 2, 3, 4, 5, 6, 7, 8, 9]
  | _ => []
def rCA01Trn : Nat → List Nat
  | 10 => [999]
  | _ => []
def rCA01Cnt : List (Nat × Nat) := [(4, 1), (7, 1)]
def rCA01T999 (pb : Nat) (PC : Array Value) (mp : Nat) (loc : Int) (sx : Nat) (ln : Nat) (cp : Nat) (B1_1 : Nat) (B1 : Nat) (L9 : Nat → Bool) (α : Rega.Atoms) : Rw := if L9 10 = true then row (B1_1) 30 #[.iface 52 (.pointer (some ⟨α 7, 0, none⟩)), .int .i32 loc] else row (B1_1) 30 #[.nilIface, .int .i32 0]
def rCA01R (pb : Nat) (PC : Array Value) (mp : Nat) (loc : Int) (sx : Nat) (ln : Nat) (cp : Nat) (B1_1 : Nat) (B1 : Nat) (L9 : Nat → Bool) (α : Rega.Atoms) (ix9 : Nat) : Rw := if ix9 = 999 then rCA01T999 pb PC mp loc sx ln cp B1_1 B1 L9 α else if ix9 = 1999 then row (B1) 28 #[.int .i32 loc] else if ix9 = 2999 then row (pb) 206 PC else if ix9 = 3999 then ((mp, .map #[⟨.string ⟨#[95, 95, 115, 117, 112, 101, 114, 87, 114, 97, 112, 112, 101, 114]⟩, .agg #[.int .i32 0, .int .u32 0, .int .u32 2], 0⟩, ⟨.string ⟨#[95, 95, 115, 117, 112, 101, 114, 71, 101, 116]⟩, .agg #[.int .i32 0, .int .u32 0, .int .u32 3], 1⟩, ⟨.string ⟨#[95, 95, 112, 114, 105, 118, 97, 116, 101, 87, 114, 97, 112, 112, 101, 114]⟩, .agg #[.int .i32 0, .int .u32 0, .int .u32 4], 2⟩] 3) : Rw) else if ix9 = 4 then row (α 4) 223 #[.int .u32 0, .int .u32 2, .bool false, .bool false, .bool false] else if ix9 = 7 then row (α 7) 56 #[.iface 220 (.pointer (some ⟨α 4, 0, none⟩)), .int .i32 loc, .slice (some ⟨sx, 0, none⟩) ln cp, .int .i32 0, .int .u8 0, .int .u8 0, .bool false, .bool false] else (0, .map #[] 0)
theorem rCA01_he (pb : Nat) (PC : Array Value) (mp : Nat) (loc : Int) (sx : Nat) (ln : Nat) (cp : Nat) (B1_1 : Nat) (B1 : Nat) : ∀ kk α α', (∀ j, (j % 1000 = kk ∨ j % 1000 ∈ rCA01Anc kk) → α j = α' j) → rCA01E pb PC mp loc sx ln cp B1_1 B1 kk α = rCA01E pb PC mp loc sx ln cp B1_1 B1 kk α' := by
  intro kk α α' h
  match kk with
  | 0 => rfl
  | 1 => rfl
  | 2 => rfl
  | 3 => rfl
  | 4 => simp only [rCA01E, h 4 (Or.inl rfl)]
  | 5 => rfl
  | 6 => simp only [rCA01E, h 4 (Or.inr (by decide))]
  | 7 => simp only [rCA01E, h 7 (Or.inl rfl)]
  | 8 => simp only [rCA01E, h 7 (Or.inr (by decide))]
  | 9 => simp only [rCA01E, h 7 (Or.inr (by decide))]
  | 10 => rfl
  | n + 11 => rfl
theorem rCA01_st (pb : Nat) (PC : Array Value) (mp : Nat) (loc : Int) (sx : Nat) (ln : Nat) (cp : Nat) (B1_1 : Nat) (B1 : Nat) : Stable rCA01Cnt 4 rCA01Anc rCA01Trn (rCA01R pb PC mp loc sx ln cp B1_1 B1) := by
  intro k9 L9 α α' ix9 hk hcl hα hact ht
  have hp := act_places hact
  replace hp : ix9 ∈ [999, 1999, 2999, 3999, 4, 7] := hp
  simp only [List.mem_cons, List.not_mem_nil, or_false] at hp
  rcases hp with rfl | rfl | rfl | rfl | rfl | rfl
  · show rCA01T999 pb PC mp loc sx ln cp B1_1 B1 (Rega.ran L9 k9) α' = rCA01T999 pb PC mp loc sx ln cp B1_1 B1 L9 α
    unfold rCA01T999
    have n10 : 10 ≠ k9 := fun e => ht (by rw [← e]; decide)
    rw [ran_ne n10]
    by_cases e10 : L9 10 = true
    · first | rw [if_pos e10, if_pos e10] | rw [if_pos e10]
      try simp only [hα 7 (ne_ran hk (hcl 10 e10 7 (by decide)))]
    first | rw [if_neg e10, if_neg e10] | rw [if_neg e10]
  · rfl
  · rfl
  · rfl
  · have e0 : L9 4 = true := act_lt hact (by decide)
    show row (α' 4) 223 #[.int .u32 0, .int .u32 2, .bool false, .bool false, .bool false] = row (α 4) 223 #[.int .u32 0, .int .u32 2, .bool false, .bool false, .bool false]
    simp only [hα 4 (ne_ran hk e0)]
  · have e0 : L9 7 = true := act_lt hact (by decide)
    show row (α' 7) 56 #[.iface 220 (.pointer (some ⟨α' 4, 0, none⟩)), .int .i32 loc, .slice (some ⟨sx, 0, none⟩) ln cp, .int .i32 0, .int .u8 0, .int .u8 0, .bool false, .bool false] = row (α 7) 56 #[.iface 220 (.pointer (some ⟨α 4, 0, none⟩)), .int .i32 loc, .slice (some ⟨sx, 0, none⟩) ln cp, .int .i32 0, .int .u8 0, .int .u8 0, .bool false, .bool false]
    simp only [hα 4 (ne_ran hk (hcl 7 e0 4 (by decide))), hα 7 (ne_ran hk e0)]
def callRWPost (pb : Nat) (PC : Array Value) (mp cr : Nat) (r s : Bool) (loc : Int) (sx ln cp : Nat) (w0 : World) (X : Nat → Obj → Prop) (e : Ending) (w' : World) : Prop :=
  ∃ ca : Nat, ∃ b : Nat, e = .returned (.agg #[.iface 52 (.pointer (some ⟨ca, 0, none⟩)), .int .i32 loc]) ∧ Own w0 w' [row (pb) 206 PC, ((mp, .map #[⟨.string ⟨#[95, 95, 115, 117, 112, 101, 114, 87, 114, 97, 112, 112, 101, 114]⟩, .agg #[.int .i32 0, .int .u32 0, .int .u32 2], 0⟩, ⟨.string ⟨#[95, 95, 115, 117, 112, 101, 114, 71, 101, 116]⟩, .agg #[.int .i32 0, .int .u32 0, .int .u32 3], 1⟩, ⟨.string ⟨#[95, 95, 112, 114, 105, 118, 97, 116, 101, 87, 114, 97, 112, 112, 101, 114]⟩, .agg #[.int .i32 0, .int .u32 0, .int .u32 4], 2⟩] 3) : Rw), row (b) 223 #[.int .u32 0, .int .u32 2, .bool false, .bool false, .bool false], row (ca) 56 #[.iface 220 (.pointer (some ⟨b, 0, none⟩)), .int .i32 loc, .slice (some ⟨sx, 0, none⟩) ln cp, .int .i32 0, .int .u8 0, .int .u8 0, .bool false, .bool false]] X
set_option maxRecDepth 100000 in
set_option maxHeartbeats 1000000 in
theorem callRW (pb : Nat) (PC : Array Value) (mp cr : Nat) (r s : Bool) (loc : Int) (sx ln cp : Nat) (w0 w : World) (X : Nat → Obj → Prop) (hO : Own w0 w [row (pb) 206 PC, ((mp, .map #[⟨.string ⟨#[95, 95, 115, 117, 112, 101, 114, 87, 114, 97, 112, 112, 101, 114]⟩, .agg #[.int .i32 0, .int .u32 0, .int .u32 2], 0⟩, ⟨.string ⟨#[95, 95, 115, 117, 112, 101, 114, 71, 101, 116]⟩, .agg #[.int .i32 0, .int .u32 0, .int .u32 3], 1⟩, ⟨.string ⟨#[95, 95, 112, 114, 105, 118, 97, 116, 101, 87, 114, 97, 112, 112, 101, 114]⟩, .agg #[.int .i32 0, .int .u32 0, .int .u32 4], 2⟩] 3) : Rw)] X) (hD : Dead PC mp cr r s) :
    Calls Tryd.prog 48 #[.pointer (some ⟨pb, 0, none⟩), .agg #[.int .i32 loc], .string ⟨#[95, 95, 115, 117, 112, 101, 114, 87, 114, 97, 112, 112, 101, 114]⟩, .slice (some ⟨sx, 0, none⟩) ln cp] w (callRWPost pb PC mp cr r s loc sx ln cp w0 X) := by
  go_enter Tryd.func48, Tryd.ntmps48
  have c9_0_32 : w.cell? ⟨pb, 32, none⟩ = some (.bool false) := hO.cell 0 rfl (32) (hD.ts)
  have c9_0_95 : w.cell? ⟨pb, 95, none⟩ = some (.bool r) := hO.cell 0 rfl (95) (hD.rep)
  have c9_0_96 : w.cell? ⟨pb, 96, none⟩ = some (.bool s) := hO.cell 0 rfl (96) (hD.stat)
  have c9_0_97 : w.cell? ⟨pb, 97, none⟩ = some (.pointer (some ⟨cr, 0, none⟩)) := hO.cell 0 rfl (97) (hD.cls)
  have c9_0_117 : w.cell? ⟨pb, 117, none⟩ = some (.map (some mp)) := hO.cell 0 rfl (117) (hD.imp)
  have c9_0_350 : w.cell? ⟨pb, 350, none⟩ = some (.bool true) := hO.cell 0 rfl (350) (hD.dead)
  have lt9_0 : pb < w.heap.size := hO.lt 0 rfl
  have y9_0 : ∀ o, w.frozen? ⟨pb, o, none⟩ = false := hO.free 0 rfl
  have HO := Lib.hid hO
  clear hO
  go_wp2_with (first | (with_reducible refine Own.stay (fn := Tryd.f48) ?_) | fail)
  try with_reducible refine Own.Stay.mk ?_
  have hO := HO.out
  clear HO c9_0_32 c9_0_95 c9_0_96 c9_0_97 c9_0_117 c9_0_350 lt9_0 y9_0
  generalize hW : World.alloc _ _ = W2
  have hN : Own w0 W2 [row (w.heap.size + 1) 30 #[.nilIface, .int .i32 0], row (w.heap.size) 28 #[.int .i32 loc], row (pb) 206 PC, ((mp, .map #[⟨.string ⟨#[95, 95, 115, 117, 112, 101, 114, 87, 114, 97, 112, 112, 101, 114]⟩, .agg #[.int .i32 0, .int .u32 0, .int .u32 2], 0⟩, ⟨.string ⟨#[95, 95, 115, 117, 112, 101, 114, 71, 101, 116]⟩, .agg #[.int .i32 0, .int .u32 0, .int .u32 3], 1⟩, ⟨.string ⟨#[95, 95, 112, 114, 105, 118, 97, 116, 101, 87, 114, 97, 112, 112, 101, 114]⟩, .agg #[.int .i32 0, .int .u32 0, .int .u32 4], 2⟩] 3) : Rw)] X := by
    rw [← hW]
    exact ((hO).alloc' _ (w.heap.size) (by simp)).alloc' _ (w.heap.size + 1) (by simp)
  clear hW hO
  generalize w.heap.size + 1 = B1_1 at hN ⊢
  generalize w.heap.size = B1 at hN ⊢
  have hO := hN
  clear hN
  have st9 := rCA01_st pb PC mp loc sx ln cp B1_1 B1
  let R9 := rCA01R pb PC mp loc sx ln cp B1_1 B1
  refine wp_region_own (e := rCA01E pb PC mp loc sx ln cp B1_1 B1) (anc := rCA01Anc) (G := (fun L9 α u9 => OwnF w0 u9 (act rCA01Cnt 4 L9) (rCA01R pb PC mp loc sx ln cp B1_1 B1 L9 α) X)) (by kernel_rfl) (by kernel_rfl) (by kernel_rfl) (by kernel_rfl) (rCA01_he pb PC mp loc sx ln cp B1_1 B1) ?_ (RunsAll.all ?_) ?_
  · have hp : ∀ i, act rCA01Cnt 4 (fun _ => false) i → i ∈ [999, 1999, 2999, 3999] := by
      intro i hi
      have h9 : i % 1000 = 999 := by
        by_cases h : i % 1000 = 999
        · exact h
        · exact absurd (act_lt hi h) (by simp)
      unfold act at hi
      rw [if_pos h9] at hi
      simp only [List.mem_cons, List.not_mem_nil, or_false]
      omega
    refine hO.drew.family (fun i hi => ?_) (fun i j hi hj hij => ?_)
    · have := hp i hi
      simp only [List.mem_cons, List.not_mem_nil, or_false] at this
      rcases this with rfl | rfl | rfl | rfl <;> rfl
    · have h1 := hp i hi
      have h2 := hp j hj
      simp only [List.mem_cons, List.not_mem_nil, or_false] at h1 h2
      omega
  · refine ⟨?_, ?_, ?_, ?_, ?_, ?_, ?_, ?_, ?_, ?_, ?_, trivial⟩
    · intro L9 α a9 u9 K9 hL hcl hA hG hS h0 h1 hK
      replace hL : L9 0 = false := hL
      have q5 : a9.tmps[5]? = some (.pointer (some ⟨B1, 0, none⟩)) := (h0 5 (by kernel_rfl)).trans rfl
      have s5 := Rega.eval_of q5
      have e0 : R9 L9 α 1999 = row (B1) 28 #[.int .i32 loc] := rfl
      have hr := hG.rowAt 1999 (act_base 1999 rfl) e0
      have c0 : u9.cell? ⟨B1, 0, none⟩ = some (.int .i32 loc) := hr.cell rfl
      clear hr e0
      go_simp
      exact hK _ α _ (fun _ _ => rfl) rfl (step_same (st9) hL hcl rfl rfl hG)
    · intro L9 α a9 u9 K9 hL hcl hA hG hS h0 h1 hK
      replace hL : L9 1 = false := hL
      have q0 : a9.tmps[0]? = some (.pointer (some ⟨pb, 0, none⟩)) := (h0 0 (by kernel_rfl)).trans rfl
      have s0 := Rega.eval_of q0
      go_simp
      exact hK _ α _ (fun _ _ => rfl) rfl (step_same (st9) hL hcl rfl rfl hG)
    · intro L9 α a9 u9 K9 hL hcl hA hG hS h0 h1 hK
      replace hL : L9 2 = false := hL
      have q5 : a9.tmps[5]? = some (.pointer (some ⟨B1, 0, none⟩)) := (h0 5 (by kernel_rfl)).trans rfl
      have s5 := Rega.eval_of q5
      have e0 : R9 L9 α 1999 = row (B1) 28 #[.int .i32 loc] := rfl
      have hr := hG.rowAt 1999 (act_base 1999 rfl) e0
      have c0 : u9.cell? ⟨B1, 0, none⟩ = some (.int .i32 loc) := hr.cell rfl
      clear hr e0
      go_simp
      exact hK _ α _ (fun _ _ => rfl) rfl (step_same (st9) hL hcl rfl rfl hG)
    · intro L9 α a9 u9 K9 hL hcl hA hG hS h0 h1 hK
      replace hL : L9 3 = false := hL
      have q2 : a9.tmps[2]? = some (.string ⟨#[95, 95, 115, 117, 112, 101, 114, 87, 114, 97, 112, 112, 101, 114]⟩) := (h0 2 (by kernel_rfl)).trans rfl
      have s2 := Rega.eval_of q2
      go_simp
      exact hK _ α _ (fun _ _ => rfl) rfl (step_same (st9) hL hcl rfl rfl hG)
    · intro L9 α a9 u9 K9 hL hcl hA hG hS h0 h1 hK
      replace hL : L9 4 = false := hL
      have q10 : a9.tmps[10]? = some (.pointer (some ⟨pb, 0, none⟩)) := hS 1 10 (by decide) rfl (by show 10 < 19; decide)
      have s10 := Rega.eval_of q10
      have q11 : a9.tmps[11]? = some (.agg #[.int .i32 loc]) := hS 2 11 (by decide) rfl (by show 11 < 19; decide)
      have s11 := Rega.eval_of q11
      have q12 : a9.tmps[12]? = some (.string ⟨#[95, 95, 115, 117, 112, 101, 114, 87, 114, 97, 112, 112, 101, 114]⟩) := hS 3 12 (by decide) rfl (by show 12 < 19; decide)
      have s12 := Rega.eval_of q12
      go_simp
      have e0 : R9 L9 α 2999 = row (pb) 206 PC := rfl
      have e1 : R9 L9 α 3999 = ((mp, .map #[⟨.string ⟨#[95, 95, 115, 117, 112, 101, 114, 87, 114, 97, 112, 112, 101, 114]⟩, .agg #[.int .i32 0, .int .u32 0, .int .u32 2], 0⟩, ⟨.string ⟨#[95, 95, 115, 117, 112, 101, 114, 71, 101, 116]⟩, .agg #[.int .i32 0, .int .u32 0, .int .u32 3], 1⟩, ⟨.string ⟨#[95, 95, 112, 114, 105, 118, 97, 116, 101, 87, 114, 97, 112, 112, 101, 114]⟩, .agg #[.int .i32 0, .int .u32 0, .int .u32 4], 2⟩] 3) : Rw) := rfl
      have hM : ∀ i, i ∈ [2999, 3999] → act rCA01Cnt 4 L9 i := by
        intro i hi
        simp only [List.mem_cons, List.not_mem_nil, or_false] at hi
        rcases hi with rfl | rfl
        · exact act_base 2999 rfl
        · exact act_base 3999 rfl
      have hP : Own w0 u9 [row (pb) 206 PC, ((mp, .map #[⟨.string ⟨#[95, 95, 115, 117, 112, 101, 114, 87, 114, 97, 112, 112, 101, 114]⟩, .agg #[.int .i32 0, .int .u32 0, .int .u32 2], 0⟩, ⟨.string ⟨#[95, 95, 115, 117, 112, 101, 114, 71, 101, 116]⟩, .agg #[.int .i32 0, .int .u32 0, .int .u32 3], 1⟩, ⟨.string ⟨#[95, 95, 112, 114, 105, 118, 97, 116, 101, 87, 114, 97, 112, 112, 101, 114]⟩, .agg #[.int .i32 0, .int .u32 0, .int .u32 4], 2⟩] 3) : Rw)] _ := (hG.pick [2999, 3999] (by decide) hM).conv (by
        show [R9 L9 α 2999, R9 L9 α 3999] = _
        rw [e0, e1])
      clear e0 e1 hM
      refine Calls.mono (impW pb PC mp cr r s loc _ _ _ hP hD) ?_
      rintro e9 u1 ⟨b0, rfl, hQ⟩
      obtain ⟨α', hα'⟩ : ∃ α' : Rega.Atoms, α' = (fun j => if j = 4 then b0 else α j) := ⟨_, rfl⟩
      have f0 : R9 (Rega.ran L9 4) α' 2999 = row (pb) 206 PC := rfl
      have f1 : R9 (Rega.ran L9 4) α' 3999 = ((mp, .map #[⟨.string ⟨#[95, 95, 115, 117, 112, 101, 114, 87, 114, 97, 112, 112, 101, 114]⟩, .agg #[.int .i32 0, .int .u32 0, .int .u32 2], 0⟩, ⟨.string ⟨#[95, 95, 115, 117, 112, 101, 114, 71, 101, 116]⟩, .agg #[.int .i32 0, .int .u32 0, .int .u32 3], 1⟩, ⟨.string ⟨#[95, 95, 112, 114, 105, 118, 97, 116, 101, 87, 114, 97, 112, 112, 101, 114]⟩, .agg #[.int .i32 0, .int .u32 0, .int .u32 4], 2⟩] 3) : Rw) := rfl
      have f2 : R9 (Rega.ran L9 4) α' 4 = row (α' 4) 223 #[.int .u32 0, .int .u32 2, .bool false, .bool false, .bool false] := rfl
      have hα : ∀ j, j % 1000 ≠ 4 → α' j = α j := fun j hj => by rw [hα']; simp only []; rw [if_neg (by omega)]
      have hb0 : α' 4 = b0 := by rw [hα']; rfl
      skip
      refine hK _ α' _ hα ?_ (step_call (st9) hL hcl hα [2999, 3999] [2999, 3999, 4] (by decide) (by decide) (by decide) (M := _) ?_ hG hQ)
      · show _ = (.agg #[.iface 220 (.pointer (some ⟨α' 4, 0, none⟩)), .int .i32 loc] : Value)
        simp only [hb0]
      · show [R9 (Rega.ran L9 4) α' 2999, R9 (Rega.ran L9 4) α' 3999, R9 (Rega.ran L9 4) α' 4] = _
        rw [f0, f1, f2]
        simp only [hb0]
        try rfl
    · intro L9 α a9 u9 K9 hL hcl hA hG hS h0 h1 hK
      replace hL : L9 5 = false := hL
      have q3 : a9.tmps[3]? = some (.slice (some ⟨sx, 0, none⟩) ln cp) := (h0 3 (by kernel_rfl)).trans rfl
      have s3 := Rega.eval_of q3
      go_simp
      exact hK _ α _ (fun _ _ => rfl) rfl (step_same (st9) hL hcl rfl rfl hG)
    · intro L9 α a9 u9 K9 hL hcl hA hG hS h0 h1 hK
      replace hL : L9 6 = false := hL
      have q13 : a9.tmps[13]? = some (.agg #[.iface 220 (.pointer (some ⟨α 4, 0, none⟩)), .int .i32 loc]) := hS 4 13 (by decide) rfl (by show 13 < 19; decide)
      have s13 := Rega.eval_of q13
      have q14 : a9.tmps[14]? = some (.slice (some ⟨sx, 0, none⟩) ln cp) := hS 5 14 (by decide) rfl (by show 14 < 19; decide)
      have s14 := Rega.eval_of q14
      go_simp
      exact hK _ α _ (fun _ _ => rfl) rfl (step_same (st9) hL hcl rfl rfl hG)
    · intro L9 α a9 u9 K9 hL hcl hA hG hS h0 h1 hK
      replace hL : L9 7 = false := hL
      have q15 : a9.tmps[15]? = some (.agg #[.iface 220 (.pointer (some ⟨α 4, 0, none⟩)), .int .i32 loc, .slice (some ⟨sx, 0, none⟩) ln cp, .int .i32 0, .int .u8 0, .int .u8 0, .bool false, .bool false]) := hS 6 15 (by decide) rfl (by show 15 < 19; decide)
      have s15 := Rega.eval_of q15
      go_simp
      exact hK _ (fun j => if j = 7 then u9.heap.size else α j) _ (fun j hj => if_neg (fun e => hj (by rw [e]))) rfl (step_alloc (st9) hL hcl rfl rfl (by decide) _ rfl hG)
    · intro L9 α a9 u9 K9 hL hcl hA hG hS h0 h1 hK
      replace hL : L9 8 = false := hL
      have q16 : a9.tmps[16]? = some (.pointer (some ⟨α 7, 0, none⟩)) := hS 7 16 (by decide) rfl (by show 16 < 19; decide)
      have s16 := Rega.eval_of q16
      go_simp
      exact hK _ α _ (fun _ _ => rfl) rfl (step_same (st9) hL hcl rfl rfl hG)
    · intro L9 α a9 u9 K9 hL hcl hA hG hS h0 h1 hK
      replace hL : L9 9 = false := hL
      have q9 : a9.tmps[9]? = some (.agg #[.int .i32 loc]) := hS 0 9 (by decide) rfl (by show 9 < 19; decide)
      have s9 := Rega.eval_of q9
      have q17 : a9.tmps[17]? = some (.iface 52 (.pointer (some ⟨α 7, 0, none⟩))) := hS 8 17 (by decide) rfl (by show 17 < 19; decide)
      have s17 := Rega.eval_of q17
      go_simp
      exact hK _ α _ (fun _ _ => rfl) rfl (step_same (st9) hL hcl rfl rfl hG)
    · intro L9 α a9 u9 K9 hL hcl hA hG hS h0 h1 hK
      replace hL : L9 10 = false := hL
      have q8 : a9.tmps[8]? = some (.pointer (some ⟨B1_1, 0, none⟩)) := (h0 8 (by kernel_rfl)).trans rfl
      have s8 := Rega.eval_of q8
      have q18 : a9.tmps[18]? = some (.agg #[.iface 52 (.pointer (some ⟨α 7, 0, none⟩)), .int .i32 loc]) := hS 9 18 (by decide) rfl (by show 18 < 19; decide)
      have s18 := Rega.eval_of q18
      have e0 : R9 L9 α 999 = row (B1_1) 30 #[.nilIface, .int .i32 0] := by
        show rCA01T999 pb PC mp loc sx ln cp B1_1 B1 L9 α = _
        unfold rCA01T999
        rw [if_neg (by rw [hL]; decide)]
      have hr := hG.rowAt 999 (act_base 999 rfl) e0
      have c0 : u9.cell? ⟨B1_1, 0, none⟩ = some (.nilIface) := hr.cell rfl
      have y0 : u9.frozen? ⟨B1_1, 0, none⟩ = false := hr.free (0)
      have c1 : u9.cell? ⟨B1_1, 1, none⟩ = some (.int .i32 0) := hr.cell rfl
      have y1 : u9.frozen? ⟨B1_1, 1, none⟩ = false := hr.free (1)
      clear hr
      have E0 := Lib.hid e0
      clear e0
      go_simp
      have e1 : R9 (Rega.ran L9 10) α 999 = row (B1_1) 30 #[.iface 52 (.pointer (some ⟨α 7, 0, none⟩)), .int .i32 loc] := by
        show rCA01T999 pb PC mp loc sx ln cp B1_1 B1 (Rega.ran L9 10) α = _
        unfold rCA01T999
        rw [if_pos (show Rega.ran L9 10 10 = true from rfl)]
      exact hK _ α _ (fun _ _ => rfl) rfl (step_sets (st9) hL hcl rfl 999 rfl (act_base 999 rfl) E0.out (0) [.iface 52 (.pointer (some ⟨α 7, 0, none⟩)), .int .i32 loc] (e1.trans rfl) hG)
  clear st9
  intro α u hG
  have e0 : R9 (fun k => decide (k < 11)) α 999 = row (B1_1) 30 #[.iface 52 (.pointer (some ⟨α 7, 0, none⟩)), .int .i32 loc] := by
    show rCA01T999 pb PC mp loc sx ln cp B1_1 B1 (fun k => decide (k < 11)) α = _
    unfold rCA01T999
    rw [if_pos (by decide)]
  have e1 : R9 (fun k => decide (k < 11)) α 1999 = row (B1) 28 #[.int .i32 loc] := rfl
  have e2 : R9 (fun k => decide (k < 11)) α 2999 = row (pb) 206 PC := rfl
  have e3 : R9 (fun k => decide (k < 11)) α 3999 = ((mp, .map #[⟨.string ⟨#[95, 95, 115, 117, 112, 101, 114, 87, 114, 97, 112, 112, 101, 114]⟩, .agg #[.int .i32 0, .int .u32 0, .int .u32 2], 0⟩, ⟨.string ⟨#[95, 95, 115, 117, 112, 101, 114, 71, 101, 116]⟩, .agg #[.int .i32 0, .int .u32 0, .int .u32 3], 1⟩, ⟨.string ⟨#[95, 95, 112, 114, 105, 118, 97, 116, 101, 87, 114, 97, 112, 112, 101, 114]⟩, .agg #[.int .i32 0, .int .u32 0, .int .u32 4], 2⟩] 3) : Rw) := rfl
  have e4 : R9 (fun k => decide (k < 11)) α 4 = row (α 4) 223 #[.int .u32 0, .int .u32 2, .bool false, .bool false, .bool false] := rfl
  have e5 : R9 (fun k => decide (k < 11)) α 7 = row (α 7) 56 #[.iface 220 (.pointer (some ⟨α 4, 0, none⟩)), .int .i32 loc, .slice (some ⟨sx, 0, none⟩) ln cp, .int .i32 0, .int .u8 0, .int .u8 0, .bool false, .bool false] := rfl
  have hO : Own w0 u [row (B1_1) 30 #[.iface 52 (.pointer (some ⟨α 7, 0, none⟩)), .int .i32 loc], row (B1) 28 #[.int .i32 loc], row (pb) 206 PC, ((mp, .map #[⟨.string ⟨#[95, 95, 115, 117, 112, 101, 114, 87, 114, 97, 112, 112, 101, 114]⟩, .agg #[.int .i32 0, .int .u32 0, .int .u32 2], 0⟩, ⟨.string ⟨#[95, 95, 115, 117, 112, 101, 114, 71, 101, 116]⟩, .agg #[.int .i32 0, .int .u32 0, .int .u32 3], 1⟩, ⟨.string ⟨#[95, 95, 112, 114, 105, 118, 97, 116, 101, 87, 114, 97, 112, 112, 101, 114]⟩, .agg #[.int .i32 0, .int .u32 0, .int .u32 4], 2⟩] 3) : Rw), row (α 4) 223 #[.int .u32 0, .int .u32 2, .bool false, .bool false, .bool false], row (α 7) 56 #[.iface 220 (.pointer (some ⟨α 4, 0, none⟩)), .int .i32 loc, .slice (some ⟨sx, 0, none⟩) ln cp, .int .i32 0, .int .u8 0, .int .u8 0, .bool false, .bool false]] X := (hG.list [999, 1999, 2999, 3999, 4, 7] (by decide) (act_all (by decide))).conv (by
    show [R9 (fun k => decide (k < 11)) α 999, R9 (fun k => decide (k < 11)) α 1999, R9 (fun k => decide (k < 11)) α 2999, R9 (fun k => decide (k < 11)) α 3999, R9 (fun k => decide (k < 11)) α 4, R9 (fun k => decide (k < 11)) α 7] = _
    rw [e0, e1, e2, e3, e4, e5])
  clear hG e0 e1 e2 e3 e4 e5 R9
  generalize hfr : Rega.frameAt _ _ _ _ _ = fr
  have hdf : fr = ⟨#[.pointer (some ⟨pb, 0, none⟩), .agg #[.int .i32 loc], .string ⟨#[95, 95, 115, 117, 112, 101, 114, 87, 114, 97, 112, 112, 101, 114]⟩, .slice (some ⟨sx, 0, none⟩) ln cp, undef, .pointer (some ⟨B1, 0, none⟩), undef, undef, .pointer (some ⟨B1_1, 0, none⟩), .agg #[.int .i32 loc], .pointer (some ⟨pb, 0, none⟩), .agg #[.int .i32 loc], .string ⟨#[95, 95, 115, 117, 112, 101, 114, 87, 114, 97, 112, 112, 101, 114]⟩, .agg #[.iface 220 (.pointer (some ⟨α 4, 0, none⟩)), .int .i32 loc], .slice (some ⟨sx, 0, none⟩) ln cp, .agg #[.iface 220 (.pointer (some ⟨α 4, 0, none⟩)), .int .i32 loc, .slice (some ⟨sx, 0, none⟩) ln cp, .int .i32 0, .int .u8 0, .int .u8 0, .bool false, .bool false], .pointer (some ⟨α 7, 0, none⟩), .iface 52 (.pointer (some ⟨α 7, 0, none⟩)), .agg #[.iface 52 (.pointer (some ⟨α 7, 0, none⟩)), .int .i32 loc]], []⟩ := by rw [← hfr]; kernel_rfl
  clear hfr
  subst hdf
  generalize α 4 = nd3 at hO ⊢
  generalize α 7 = nd4 at hO ⊢
  clear α
  obtain ⟨c9_0_0, c9_0_1, lt9_0, y9_0, -⟩ := hO.k2 0 rfl
  obtain ⟨c9_1_0, lt9_1, y9_1, -⟩ := hO.k1 1 rfl
  have c9_2_32 : u.cell? ⟨pb, 32, none⟩ = some (.bool false) := hO.cell 2 rfl (32) (hD.ts)
  have c9_2_95 : u.cell? ⟨pb, 95, none⟩ = some (.bool r) := hO.cell 2 rfl (95) (hD.rep)
  have c9_2_96 : u.cell? ⟨pb, 96, none⟩ = some (.bool s) := hO.cell 2 rfl (96) (hD.stat)
  have c9_2_97 : u.cell? ⟨pb, 97, none⟩ = some (.pointer (some ⟨cr, 0, none⟩)) := hO.cell 2 rfl (97) (hD.cls)
  have c9_2_117 : u.cell? ⟨pb, 117, none⟩ = some (.map (some mp)) := hO.cell 2 rfl (117) (hD.imp)
  have c9_2_350 : u.cell? ⟨pb, 350, none⟩ = some (.bool true) := hO.cell 2 rfl (350) (hD.dead)
  have lt9_2 : pb < u.heap.size := hO.lt 2 rfl
  have y9_2 : ∀ o, u.frozen? ⟨pb, o, none⟩ = false := hO.free 2 rfl
  obtain ⟨c9_4_0, c9_4_1, c9_4_2, c9_4_3, c9_4_4, lt9_4, y9_4, -⟩ := hO.k5 4 rfl
  obtain ⟨c9_5_0, c9_5_1, c9_5_2, c9_5_3, c9_5_4, c9_5_5, c9_5_6, c9_5_7, lt9_5, y9_5, -⟩ := hO.k8 5 rfl
  have HO := Lib.hid hO
  clear hO
  go_wp2_with (first | (with_reducible refine Own.stay (fn := Tryd.f48) ?_) | fail)
  try with_reducible refine Own.Stay.mk ?_
  have hO := HO.out
  clear HO c9_0_0 c9_0_1 lt9_0 y9_0 c9_1_0 lt9_1 y9_1 c9_2_32 c9_2_95 c9_2_96 c9_2_97 c9_2_117 c9_2_350 lt9_2 y9_2 c9_4_0 c9_4_1 c9_4_2 c9_4_3 c9_4_4 lt9_4 y9_4 c9_5_0 c9_5_1 c9_5_2 c9_5_3 c9_5_4 c9_5_5 c9_5_6 c9_5_7 lt9_5 y9_5
  have z9_0_0 : u.cell? ⟨B1_1, 0, none⟩ = some (.iface 52 (.pointer (some ⟨nd4, 0, none⟩))) := hO.cell 0 rfl 0 rfl
  have z9_0_1 : u.cell? ⟨B1_1, 1, none⟩ = some (.int .i32 loc) := hO.cell 0 rfl 1 rfl
  refine bodyPost_ret (v := .agg #[.iface 52 (.pointer (some ⟨nd4, 0, none⟩)), .int .i32 loc]) ?_ rfl ⟨nd4, nd3, rfl, hO.sub [2, 3, 4, 5] (by decide)⟩
  simp [results, Tryd.results48, go_sem, z9_0_0, z9_0_1]
def impGPost (pb : Nat) (PC : Array Value) (mp cr : Nat) (r s : Bool) (loc : Int) (w0 : World) (X : Nat → Obj → Prop) (e : Ending) (w' : World) : Prop :=
  ∃ b : Nat, e = .returned (.agg #[.iface 220 (.pointer (some ⟨b, 0, none⟩)), .int .i32 loc]) ∧ Own w0 w' [row (pb) 206 PC, ((mp, .map #[⟨.string ⟨#[95, 95, 115, 117, 112, 101, 114, 87, 114, 97, 112, 112, 101, 114]⟩, .agg #[.int .i32 0, .int .u32 0, .int .u32 2], 0⟩, ⟨.string ⟨#[95, 95, 115, 117, 112, 101, 114, 71, 101, 116]⟩, .agg #[.int .i32 0, .int .u32 0, .int .u32 3], 1⟩, ⟨.string ⟨#[95, 95, 112, 114, 105, 118, 97, 116, 101, 87, 114, 97, 112, 112, 101, 114]⟩, .agg #[.int .i32 0, .int .u32 0, .int .u32 4], 2⟩] 3) : Rw), row (b) 223 #[.int .u32 0, .int .u32 3, .bool false, .bool false, .bool false]] X
set_option maxRecDepth 100000 in
set_option maxHeartbeats 1000000 in
theorem impG (pb : Nat) (PC : Array Value) (mp cr : Nat) (r s : Bool) (loc : Int) (w0 w : World) (X : Nat → Obj → Prop) (hO : Own w0 w [row (pb) 206 PC, ((mp, .map #[⟨.string ⟨#[95, 95, 115, 117, 112, 101, 114, 87, 114, 97, 112, 112, 101, 114]⟩, .agg #[.int .i32 0, .int .u32 0, .int .u32 2], 0⟩, ⟨.string ⟨#[95, 95, 115, 117, 112, 101, 114, 71, 101, 116]⟩, .agg #[.int .i32 0, .int .u32 0, .int .u32 3], 1⟩, ⟨.string ⟨#[95, 95, 112, 114, 105, 118, 97, 116, 101, 87, 114, 97, 112, 112, 101, 114]⟩, .agg #[.int .i32 0, .int .u32 0, .int .u32 4], 2⟩] 3) : Rw)] X) (hD : Dead PC mp cr r s) :
    Calls Tryd.prog 52 #[.pointer (some ⟨pb, 0, none⟩), .agg #[.int .i32 loc], .string ⟨#[95, 95, 115, 117, 112, 101, 114, 71, 101, 116]⟩] w (impGPost pb PC mp cr r s loc w0 X) := by
  go_enter Tryd.func52, Tryd.ntmps52
  have c9_0_32 : w.cell? ⟨pb, 32, none⟩ = some (.bool false) := hO.cell 0 rfl (32) (hD.ts)
  have c9_0_95 : w.cell? ⟨pb, 95, none⟩ = some (.bool r) := hO.cell 0 rfl (95) (hD.rep)
  have c9_0_96 : w.cell? ⟨pb, 96, none⟩ = some (.bool s) := hO.cell 0 rfl (96) (hD.stat)
  have c9_0_97 : w.cell? ⟨pb, 97, none⟩ = some (.pointer (some ⟨cr, 0, none⟩)) := hO.cell 0 rfl (97) (hD.cls)
  have c9_0_117 : w.cell? ⟨pb, 117, none⟩ = some (.map (some mp)) := hO.cell 0 rfl (117) (hD.imp)
  have c9_0_350 : w.cell? ⟨pb, 350, none⟩ = some (.bool true) := hO.cell 0 rfl (350) (hD.dead)
  have lt9_0 : pb < w.heap.size := hO.lt 0 rfl
  have y9_0 : ∀ o, w.frozen? ⟨pb, o, none⟩ = false := hO.free 0 rfl
  have HO := Lib.hid hO
  clear hO
  go_wp2_with (first | (with_reducible refine Own.stay (fn := Tryd.f52) ?_) | (at_lookup; refine wpList_lookup_yes rfl _ _ 92 true rfl 9 87 (by kernel_rfl) (by kernel_rfl) (((HO.out.mapAt 1 rfl).alloc _).alloc _) rfl _ rfl 1 (.agg #[.int .i32 0, .int .u32 0, .int .u32 3]) (by kernel_rfl) ?_))
  try with_reducible refine Own.Stay.mk ?_
  have hO := HO.out
  clear HO c9_0_32 c9_0_95 c9_0_96 c9_0_97 c9_0_117 c9_0_350 lt9_0 y9_0
  generalize hW : World.alloc _ _ = W2
  have hN : Own w0 W2 [row (w.heap.size + 1 + 1) 87 #[.int .i32 0, .int .u32 0, .int .u32 3], row (w.heap.size + 1) 30 #[.nilIface, .int .i32 0], row (w.heap.size) 28 #[.int .i32 loc], row (pb) 206 PC, ((mp, .map #[⟨.string ⟨#[95, 95, 115, 117, 112, 101, 114, 87, 114, 97, 112, 112, 101, 114]⟩, .agg #[.int .i32 0, .int .u32 0, .int .u32 2], 0⟩, ⟨.string ⟨#[95, 95, 115, 117, 112, 101, 114, 71, 101, 116]⟩, .agg #[.int .i32 0, .int .u32 0, .int .u32 3], 1⟩, ⟨.string ⟨#[95, 95, 112, 114, 105, 118, 97, 116, 101, 87, 114, 97, 112, 112, 101, 114]⟩, .agg #[.int .i32 0, .int .u32 0, .int .u32 4], 2⟩] 3) : Rw)] X := by
    rw [← hW]
    exact (((hO).alloc' _ (w.heap.size) (by simp)).alloc' _ (w.heap.size + 1) (by simp)).alloc' _ (w.heap.size + 1 + 1) (by simp)
  clear hW hO
  generalize w.heap.size + 1 + 1 = B1_2 at hN ⊢
  generalize w.heap.size + 1 = B1_1 at hN ⊢
  generalize w.heap.size = B1 at hN ⊢
  have hO := hN
  clear hN
  have hL := hO.apart
  have hX := hO.apartX
  have HL := Lib.hid hL
  have HX := Lib.hid hX
  clear hL hX
  have hP9 := hO.pick [3] (by decide)
  have T9 := usageDead pb PC mp cr r s 0 3 _ _ _ hP9 hD
  refine Calls.mono T9 ?_
  clear hP9 T9
  rintro e u3 ⟨rfl, hQ⟩
  have hN : Own w0 u3 [row (pb) 206 PC, row (B1_2) 87 #[.int .i32 0, .int .u32 0, .int .u32 3], row (B1_1) 30 #[.nilIface, .int .i32 0], row (B1) 28 #[.int .i32 loc], ((mp, .map #[⟨.string ⟨#[95, 95, 115, 117, 112, 101, 114, 87, 114, 97, 112, 112, 101, 114]⟩, .agg #[.int .i32 0, .int .u32 0, .int .u32 2], 0⟩, ⟨.string ⟨#[95, 95, 115, 117, 112, 101, 114, 71, 101, 116]⟩, .agg #[.int .i32 0, .int .u32 0, .int .u32 3], 1⟩, ⟨.string ⟨#[95, 95, 112, 114, 105, 118, 97, 116, 101, 87, 114, 97, 112, 112, 101, 114]⟩, .agg #[.int .i32 0, .int .u32 0, .int .u32 4], 2⟩] 3) : Rw)] X := hQ.back HL.out HX.out [0, 1, 2, 4] (by decide) (by decide)
  clear hQ HL HX hO
  have hO := hN
  clear hN
  have c9_0_32 : u3.cell? ⟨pb, 32, none⟩ = some (.bool false) := hO.cell 0 rfl (32) (hD.ts)
  have c9_0_95 : u3.cell? ⟨pb, 95, none⟩ = some (.bool r) := hO.cell 0 rfl (95) (hD.rep)
  have c9_0_96 : u3.cell? ⟨pb, 96, none⟩ = some (.bool s) := hO.cell 0 rfl (96) (hD.stat)
  have c9_0_97 : u3.cell? ⟨pb, 97, none⟩ = some (.pointer (some ⟨cr, 0, none⟩)) := hO.cell 0 rfl (97) (hD.cls)
  have c9_0_117 : u3.cell? ⟨pb, 117, none⟩ = some (.map (some mp)) := hO.cell 0 rfl (117) (hD.imp)
  have c9_0_350 : u3.cell? ⟨pb, 350, none⟩ = some (.bool true) := hO.cell 0 rfl (350) (hD.dead)
  have lt9_0 : pb < u3.heap.size := hO.lt 0 rfl
  have y9_0 : ∀ o, u3.frozen? ⟨pb, o, none⟩ = false := hO.free 0 rfl
  obtain ⟨c9_1_0, c9_1_1, c9_1_2, lt9_1, y9_1, -⟩ := hO.k3 1 rfl
  obtain ⟨c9_2_0, c9_2_1, lt9_2, y9_2, -⟩ := hO.k2 2 rfl
  obtain ⟨c9_3_0, lt9_3, y9_3, -⟩ := hO.k1 3 rfl
  have HO := Lib.hid hO
  clear hO
  go_wp2_with (first | (with_reducible refine Own.stay (fn := Tryd.f52) ?_) | (at_lookup; refine wpList_lookup_yes rfl _ _ 92 true rfl 9 87 (by kernel_rfl) (by kernel_rfl) (((HO.out.mapAt 1 rfl).alloc _).alloc _) rfl _ rfl 1 (.agg #[.int .i32 0, .int .u32 0, .int .u32 3]) (by kernel_rfl) ?_))
  try with_reducible refine Own.Stay.mk ?_
  have hO := HO.out
  clear HO c9_0_32 c9_0_95 c9_0_96 c9_0_97 c9_0_117 c9_0_350 lt9_0 y9_0 c9_1_0 c9_1_1 c9_1_2 lt9_1 y9_1 c9_2_0 c9_2_1 lt9_2 y9_2 c9_3_0 lt9_3 y9_3
  generalize hW : World.alloc _ _ = W5
  have hN : Own w0 W5 [row (u3.heap.size) 223 #[.int .u32 0, .int .u32 3, .bool false, .bool false, .bool false], row (pb) 206 PC, row (B1_2) 87 #[.int .i32 0, .int .u32 0, .int .u32 3], row (B1_1) 30 #[.iface 220 (.pointer (some ⟨u3.heap.size, 0, none⟩)), .int .i32 loc], row (B1) 28 #[.int .i32 loc], ((mp, .map #[⟨.string ⟨#[95, 95, 115, 117, 112, 101, 114, 87, 114, 97, 112, 112, 101, 114]⟩, .agg #[.int .i32 0, .int .u32 0, .int .u32 2], 0⟩, ⟨.string ⟨#[95, 95, 115, 117, 112, 101, 114, 71, 101, 116]⟩, .agg #[.int .i32 0, .int .u32 0, .int .u32 3], 1⟩, ⟨.string ⟨#[95, 95, 112, 114, 105, 118, 97, 116, 101, 87, 114, 97, 112, 112, 101, 114]⟩, .agg #[.int .i32 0, .int .u32 0, .int .u32 4], 2⟩] 3) : Rw)] X := by
    rw [← hW]
    exact (((hO).set 2 rfl 0 _).set 2 rfl 1 _).alloc' _ (u3.heap.size) (by simp)
  clear hW hO
  generalize u3.heap.size = B4 at hN ⊢
  have hO := hN
  clear hN
  have z9_3_0 : W5.cell? ⟨B1_1, 0, none⟩ = some (.iface 220 (.pointer (some ⟨B4, 0, none⟩))) := hO.cell 3 rfl 0 rfl
  have z9_3_1 : W5.cell? ⟨B1_1, 1, none⟩ = some (.int .i32 loc) := hO.cell 3 rfl 1 rfl
  refine bodyPost_ret (v := .agg #[.iface 220 (.pointer (some ⟨B4, 0, none⟩)), .int .i32 loc]) ?_ rfl ⟨B4, rfl, hO.sub [1, 5, 0] (by decide)⟩
  simp [results, Tryd.results52, go_sem, z9_3_0, z9_3_1]
def rCA11E (pb : Nat) (PC : Array Value) (mp : Nat) (loc : Int) (sx : Nat) (ln : Nat) (cp : Nat) (B1_1 : Nat) (B1 : Nat) : Nat → Rega.Atoms → Value
  | 0, α => .agg #[.int .i32 loc]
  | 1, α => .pointer (some ⟨pb, 0, none⟩)
  | 2, α => .agg #[.int .i32 loc]
  | 3, α => .string ⟨#[95, 95, 115, 117, 112, 101, 114, 71, 101, 116]⟩
  | 4, α => .agg #[.iface 220 (.pointer (some ⟨α 4, 0, none⟩)), .int .i32 loc]
  | 5, α => .slice (some ⟨sx, 0, none⟩) ln cp
  | 6, α => .agg #[.iface 220 (.pointer (some ⟨α 4, 0, none⟩)), .int .i32 loc, .slice (some ⟨sx, 0, none⟩) ln cp, .int .i32 0, .int .u8 0, .int .u8 0, .bool false, .bool false]
  | 7, α => .pointer (some ⟨α 7, 0, none⟩)
  | 8, α => .iface 52 (.pointer (some ⟨α 7, 0, none⟩))
  | 9, α => .agg #[.iface 52 (.pointer (some ⟨α 7, 0, none⟩)), .int .i32 loc]
  | 10, α => undef
  | _, _ => undef
def rCA11Anc : Nat → List Nat
  | 4 => [1, 2, 3]
  | 6 => [1, 2, 3, 4, 5]
  | 7 => [1, 2, 3, 4, 5, 6]
  | 8 => [1, 2, 3, 4, 5, 6, 7]
  | 9 => [0, 1, 2, 3, 4, 5, 6, 7, 8]
  | 10 => [0, 1, 2, 3, 4, 5, 6, 7, 8, 9]
  | _ => []
def rCA11Trn : Nat → List Nat
  | 10 => [999]
  | _ => []
def rCA11Cnt : List (Nat × Nat) := [(4, 1), (7, 1)]
def rCA11T999 (pb : Nat) (PC : Array Value) (mp : Nat) (loc : Int) (sx : Nat) (ln : Nat) (cp : Nat) (B1_1 : Nat) (B1 : Nat) (L9 : Nat → Bool) (α : Rega.Atoms) : Rw := if L9 10 = true then row (B1_1) 30 #[.iface 52 (.pointer (some ⟨α 7, 0, none⟩)), .int .i32 loc] else row (B1_1) 30 #[.nilIface, .int .i32 0]
def rCA11R (pb : Nat) (PC : Array Value) (mp : Nat) (loc : Int) (sx : Nat) (ln : Nat) (cp : Nat) (B1_1 : Nat) (B1 : Nat) (L9 : Nat → Bool) (α : Rega.Atoms) (ix9 : Nat) : Rw := if ix9 = 999 then rCA11T999 pb PC mp loc sx ln cp B1_1 B1 L9 α else if ix9 = 1999 then row (B1) 28 #[.int .i32 loc] else if ix9 = 2999 then row (pb) 206 PC else if ix9 = 3999 then ((mp, .map #[⟨.string ⟨#[95, 95, 115, 117, 112, 101, 114, 87, 114, 97, 112, 112, 101, 114]⟩, .agg #[.int .i32 0, .int .u32 0, .int .u32 2], 0⟩, ⟨.string ⟨#[95, 95, 115, 117, 112, 101, 114, 71, 101, 116]⟩, .agg #[.int .i32 0, .int .u32 0, .int .u32 3], 1⟩, ⟨.string ⟨#[95, 95, 112, 114, 105, 118, 97, 116, 101, 87, 114, 97, 112, 112, 101, 114]⟩, .agg #[.int .i32 0, .int .u32 0, .int .u32 4], 2⟩] 3) : Rw) else if ix9 = 4 then row (α 4) 223 #[.int .u32 0, .int .u32 3, .bool false, .bool false, .bool false] else if ix9 = 7 then row (α 7) 56 #[.iface 220 (.pointer (some ⟨α 4, 0, none⟩)), .int .i32 loc, .slice (some ⟨sx, 0, none⟩) ln cp, .int .i32 0, .int .u8 0, .int .u8 0, .bool false, .bool false] else (0, .map #[] 0)
theorem rCA11_he (pb : Nat) (PC : Array Value) (mp : Nat) (loc : Int) (sx : Nat) (ln : Nat) (cp : Nat) (B1_1 : Nat) (B1 : Nat) : ∀ kk α α', (∀ j, (j % 1000 = kk ∨ j % 1000 ∈ rCA11Anc kk) → α j = α' j) → rCA11E pb PC mp loc sx ln cp B1_1 B1 kk α = rCA11E pb PC mp loc sx ln cp B1_1 B1 kk α' := by
  intro kk α α' h
  match kk with
  | 0 => rfl
  | 1 => rfl
  | 2 => rfl
  | 3 => rfl
  | 4 => simp only [rCA11E, h 4 (Or.inl rfl)]
  | 5 => rfl
  | 6 => simp only [rCA11E, h 4 (Or.inr (by decide))]
  | 7 => simp only [rCA11E, h 7 (Or.inl rfl)]
  | 8 => simp only [rCA11E, h 7 (Or.inr (by decide))]
  | 9 => simp only [rCA11E, h 7 (Or.inr (by decide))]
  | 10 => rfl
  | n + 11 => rfl
theorem rCA11_st (pb : Nat) (PC : Array Value) (mp : Nat) (loc : Int) (sx : Nat) (ln : Nat) (cp : Nat) (B1_1 : Nat) (B1 : Nat) : Stable rCA11Cnt 4 rCA11Anc rCA11Trn (rCA11R pb PC mp loc sx ln cp B1_1 B1) := by
  intro k9 L9 α α' ix9 hk hcl hα hact ht
  have hp := act_places hact
  replace hp : ix9 ∈ [999, 1999, 2999, 3999, 4, 7] := hp
  simp only [List.mem_cons, List.not_mem_nil, or_false] at hp
  rcases hp with rfl | rfl | rfl | rfl | rfl | rfl
  · show rCA11T999 pb PC mp loc sx ln cp B1_1 B1 (Rega.ran L9 k9) α' = rCA11T999 pb PC mp loc sx ln cp B1_1 B1 L9 α
    unfold rCA11T999
    have n10 : 10 ≠ k9 := fun e => ht (by rw [← e]; decide)
    rw [ran_ne n10]
    by_cases e10 : L9 10 = true
    · first | rw [if_pos e10, if_pos e10] | rw [if_pos e10]
      try simp only [hα 7 (ne_ran hk (hcl 10 e10 7 (by decide)))]
    first | rw [if_neg e10, if_neg e10] | rw [if_neg e10]
  · rfl
  · rfl
  · rfl
  · have e0 : L9 4 = true := act_lt hact (by decide)
    show row (α' 4) 223 #[.int .u32 0, .int .u32 3, .bool false, .bool false, .bool false] = row (α 4) 223 #[.int .u32 0, .int .u32 3, .bool false, .bool false, .bool false]
    simp only [hα 4 (ne_ran hk e0)]
  · have e0 : L9 7 = true := act_lt hact (by decide)
    show row (α' 7) 56 #[.iface 220 (.pointer (some ⟨α' 4, 0, none⟩)), .int .i32 loc, .slice (some ⟨sx, 0, none⟩) ln cp, .int .i32 0, .int .u8 0, .int .u8 0, .bool false, .bool false] = row (α 7) 56 #[.iface 220 (.pointer (some ⟨α 4, 0, none⟩)), .int .i32 loc, .slice (some ⟨sx, 0, none⟩) ln cp, .int .i32 0, .int .u8 0, .int .u8 0, .bool false, .bool false]
    simp only [hα 4 (ne_ran hk (hcl 7 e0 4 (by decide))), hα 7 (ne_ran hk e0)]
def callRGPost (pb : Nat) (PC : Array Value) (mp cr : Nat) (r s : Bool) (loc : Int) (sx ln cp : Nat) (w0 : World) (X : Nat → Obj → Prop) (e : Ending) (w' : World) : Prop :=
  ∃ ca : Nat, ∃ b : Nat, e = .returned (.agg #[.iface 52 (.pointer (some ⟨ca, 0, none⟩)), .int .i32 loc]) ∧ Own w0 w' [row (pb) 206 PC, ((mp, .map #[⟨.string ⟨#[95, 95, 115, 117, 112, 101, 114, 87, 114, 97, 112, 112, 101, 114]⟩, .agg #[.int .i32 0, .int .u32 0, .int .u32 2], 0⟩, ⟨.string ⟨#[95, 95, 115, 117, 112, 101, 114, 71, 101, 116]⟩, .agg #[.int .i32 0, .int .u32 0, .int .u32 3], 1⟩, ⟨.string ⟨#[95, 95, 112, 114, 105, 118, 97, 116, 101, 87, 114, 97, 112, 112, 101, 114]⟩, .agg #[.int .i32 0, .int .u32 0, .int .u32 4], 2⟩] 3) : Rw), row (b) 223 #[.int .u32 0, .int .u32 3, .bool false, .bool false, .bool false], row (ca) 56 #[.iface 220 (.pointer (some ⟨b, 0, none⟩)), .int .i32 loc, .slice (some ⟨sx, 0, none⟩) ln cp, .int .i32 0, .int .u8 0, .int .u8 0, .bool false, .bool false]] X
set_option maxRecDepth 100000 in
set_option maxHeartbeats 1000000 in
theorem callRG (pb : Nat) (PC : Array Value) (mp cr : Nat) (r s : Bool) (loc : Int) (sx ln cp : Nat) (w0 w : World) (X : Nat → Obj → Prop) (hO : Own w0 w [row (pb) 206 PC, ((mp, .map #[⟨.string ⟨#[95, 95, 115, 117, 112, 101, 114, 87, 114, 97, 112, 112, 101, 114]⟩, .agg #[.int .i32 0, .int .u32 0, .int .u32 2], 0⟩, ⟨.string ⟨#[95, 95, 115, 117, 112, 101, 114, 71, 101, 116]⟩, .agg #[.int .i32 0, .int .u32 0, .int .u32 3], 1⟩, ⟨.string ⟨#[95, 95, 112, 114, 105, 118, 97, 116, 101, 87, 114, 97, 112, 112, 101, 114]⟩, .agg #[.int .i32 0, .int .u32 0, .int .u32 4], 2⟩] 3) : Rw)] X) (hD : Dead PC mp cr r s) :
    Calls Tryd.prog 48 #[.pointer (some ⟨pb, 0, none⟩), .agg #[.int .i32 loc], .string ⟨#[95, 95, 115, 117, 112, 101, 114, 71, 101, 116]⟩, .slice (some ⟨sx, 0, none⟩) ln cp] w (callRGPost pb PC mp cr r s loc sx ln cp w0 X) := by
  go_enter Tryd.func48, Tryd.ntmps48
  have c9_0_32 : w.cell? ⟨pb, 32, none⟩ = some (.bool false) := hO.cell 0 rfl (32) (hD.ts)
  have c9_0_95 : w.cell? ⟨pb, 95, none⟩ = some (.bool r) := hO.cell 0 rfl (95) (hD.rep)
  have c9_0_96 : w.cell? ⟨pb, 96, none⟩ = some (.bool s) := hO.cell 0 rfl (96) (hD.stat)
  have c9_0_97 : w.cell? ⟨pb, 97, none⟩ = some (.pointer (some ⟨cr, 0, none⟩)) := hO.cell 0 rfl (97) (hD.cls)
  have c9_0_117 : w.cell? ⟨pb, 117, none⟩ = some (.map (some mp)) := hO.cell 0 rfl (117) (hD.imp)
  have c9_0_350 : w.cell? ⟨pb, 350, none⟩ = some (.bool true) := hO.cell 0 rfl (350) (hD.dead)
  have lt9_0 : pb < w.heap.size := hO.lt 0 rfl
  have y9_0 : ∀ o, w.frozen? ⟨pb, o, none⟩ = false := hO.free 0 rfl
  have HO := Lib.hid hO
  clear hO
  go_wp2_with (first | (with_reducible refine Own.stay (fn := Tryd.f48) ?_) | fail)
  try with_reducible refine Own.Stay.mk ?_
  have hO := HO.out
  clear HO c9_0_32 c9_0_95 c9_0_96 c9_0_97 c9_0_117 c9_0_350 lt9_0 y9_0
  generalize hW : World.alloc _ _ = W2
  have hN : Own w0 W2 [row (w.heap.size + 1) 30 #[.nilIface, .int .i32 0], row (w.heap.size) 28 #[.int .i32 loc], row (pb) 206 PC, ((mp, .map #[⟨.string ⟨#[95, 95, 115, 117, 112, 101, 114, 87, 114, 97, 112, 112, 101, 114]⟩, .agg #[.int .i32 0, .int .u32 0, .int .u32 2], 0⟩, ⟨.string ⟨#[95, 95, 115, 117, 112, 101, 114, 71, 101, 116]⟩, .agg #[.int .i32 0, .int .u32 0, .int .u32 3], 1⟩, ⟨.string ⟨#[95, 95, 112, 114, 105, 118, 97, 116, 101, 87, 114, 97, 112, 112, 101, 114]⟩, .agg #[.int .i32 0, .int .u32 0, .int .u32 4], 2⟩] 3) : Rw)] X := by
    rw [← hW]
    exact ((hO).alloc' _ (w.heap.size) (by simp)).alloc' _ (w.heap.size + 1) (by simp)
  clear hW hO
  generalize w.heap.size + 1 = B1_1 at hN ⊢
  generalize w.heap.size = B1 at hN ⊢
  have hO := hN
  clear hN
  have st9 := rCA11_st pb PC mp loc sx ln cp B1_1 B1
  let R9 := rCA11R pb PC mp loc sx ln cp B1_1 B1
  refine wp_region_own (e := rCA11E pb PC mp loc sx ln cp B1_1 B1) (anc := rCA11Anc) (G := (fun L9 α u9 => OwnF w0 u9 (act rCA11Cnt 4 L9) (rCA11R pb PC mp loc sx ln cp B1_1 B1 L9 α) X)) (by kernel_rfl) (by kernel_rfl) (by kernel_rfl) (by kernel_rfl) (rCA11_he pb PC mp loc sx ln cp B1_1 B1) ?_ (RunsAll.all ?_) ?_
  · have hp : ∀ i, act rCA11Cnt 4 (fun _ => false) i → i ∈ [999, 1999, 2999, 3999] := by
      intro i hi
      have h9 : i % 1000 = 999 := by
        by_cases h : i % 1000 = 999
        · exact h
        · exact absurd (act_lt hi h) (by simp)
      unfold act at hi
      rw [if_pos h9] at hi
      simp only [List.mem_cons, List.not_mem_nil, or_false]
      omega
    refine hO.drew.family (fun i hi => ?_) (fun i j hi hj hij => ?_)
    · have := hp i hi
      simp only [List.mem_cons, List.not_mem_nil, or_false] at this
      rcases this with rfl | rfl | rfl | rfl <;> rfl
    · have h1 := hp i hi
      have h2 := hp j hj
      simp only [List.mem_cons, List.not_mem_nil, or_false] at h1 h2
      omega
  · refine ⟨?_, ?_, ?_, ?_, ?_, ?_, ?_, ?_, ?_, ?_, ?_, trivial⟩
    · intro L9 α a9 u9 K9 hL hcl hA hG hS h0 h1 hK
      replace hL : L9 0 = false := hL
      have q5 : a9.tmps[5]? = some (.pointer (some ⟨B1, 0, none⟩)) := (h0 5 (by kernel_rfl)).trans rfl
      have s5 := Rega.eval_of q5
      have e0 : R9 L9 α 1999 = row (B1) 28 #[.int .i32 loc] := rfl
      have hr := hG.rowAt 1999 (act_base 1999 rfl) e0
      have c0 : u9.cell? ⟨B1, 0, none⟩ = some (.int .i32 loc) := hr.cell rfl
      clear hr e0
      go_simp
      exact hK _ α _ (fun _ _ => rfl) rfl (step_same (st9) hL hcl rfl rfl hG)
    · intro L9 α a9 u9 K9 hL hcl hA hG hS h0 h1 hK
      replace hL : L9 1 = false := hL
      have q0 : a9.tmps[0]? = some (.pointer (some ⟨pb, 0, none⟩)) := (h0 0 (by kernel_rfl)).trans rfl
      have s0 := Rega.eval_of q0
      go_simp
      exact hK _ α _ (fun _ _ => rfl) rfl (step_same (st9) hL hcl rfl rfl hG)
    · intro L9 α a9 u9 K9 hL hcl hA hG hS h0 h1 hK
      replace hL : L9 2 = false := hL
      have q5 : a9.tmps[5]? = some (.pointer (some ⟨B1, 0, none⟩)) := (h0 5 (by kernel_rfl)).trans rfl
      have s5 := Rega.eval_of q5
      have e0 : R9 L9 α 1999 = row (B1) 28 #[.int .i32 loc] := rfl
      have hr := hG.rowAt 1999 (act_base 1999 rfl) e0
      have c0 : u9.cell? ⟨B1, 0, none⟩ = some (.int .i32 loc) := hr.cell rfl
      clear hr e0
      go_simp
      exact hK _ α _ (fun _ _ => rfl) rfl (step_same (st9) hL hcl rfl rfl hG)
    · intro L9 α a9 u9 K9 hL hcl hA hG hS h0 h1 hK
      replace hL : L9 3 = false := hL
      have q2 : a9.tmps[2]? = some (.string ⟨#[95, 95, 115, 117, 112, 101, 114, 71, 101, 116]⟩) := (h0 2 (by kernel_rfl)).trans rfl
      have s2 := Rega.eval_of q2
      go_simp
      exact hK _ α _ (fun _ _ => rfl) rfl (step_same (st9) hL hcl rfl rfl hG)
    · intro L9 α a9 u9 K9 hL hcl hA hG hS h0 h1 hK
      replace hL : L9 4 = false := hL
      have q10 : a9.tmps[10]? = some (.pointer (some ⟨pb, 0, none⟩)) := hS 1 10 (by decide) rfl (by show 10 < 19; decide)
      have s10 := Rega.eval_of q10
      have q11 : a9.tmps[11]? = some (.agg #[.int .i32 loc]) := hS 2 11 (by decide) rfl (by show 11 < 19; decide)
      have s11 := Rega.eval_of q11
      have q12 : a9.tmps[12]? = some (.string ⟨#[95, 95, 115, 117, 112, 101, 114, 71, 101, 116]⟩) := hS 3 12 (by decide) rfl (by show 12 < 19; decide)
      have s12 := Rega.eval_of q12
      go_simp
      have e0 : R9 L9 α 2999 = row (pb) 206 PC := rfl
      have e1 : R9 L9 α 3999 = ((mp, .map #[⟨.string ⟨#[95, 95, 115, 117, 112, 101, 114, 87, 114, 97, 112, 112, 101, 114]⟩, .agg #[.int .i32 0, .int .u32 0, .int .u32 2], 0⟩, ⟨.string ⟨#[95, 95, 115, 117, 112, 101, 114, 71, 101, 116]⟩, .agg #[.int .i32 0, .int .u32 0, .int .u32 3], 1⟩, ⟨.string ⟨#[95, 95, 112, 114, 105, 118, 97, 116, 101, 87, 114, 97, 112, 112, 101, 114]⟩, .agg #[.int .i32 0, .int .u32 0, .int .u32 4], 2⟩] 3) : Rw) := rfl
      have hM : ∀ i, i ∈ [2999, 3999] → act rCA11Cnt 4 L9 i := by
        intro i hi
        simp only [List.mem_cons, List.not_mem_nil, or_false] at hi
        rcases hi with rfl | rfl
        · exact act_base 2999 rfl
        · exact act_base 3999 rfl
      have hP : Own w0 u9 [row (pb) 206 PC, ((mp, .map #[⟨.string ⟨#[95, 95, 115, 117, 112, 101, 114, 87, 114, 97, 112, 112, 101, 114]⟩, .agg #[.int .i32 0, .int .u32 0, .int .u32 2], 0⟩, ⟨.string ⟨#[95, 95, 115, 117, 112, 101, 114, 71, 101, 116]⟩, .agg #[.int .i32 0, .int .u32 0, .int .u32 3], 1⟩, ⟨.string ⟨#[95, 95, 112, 114, 105, 118, 97, 116, 101, 87, 114, 97, 112, 112, 101, 114]⟩, .agg #[.int .i32 0, .int .u32 0, .int .u32 4], 2⟩] 3) : Rw)] _ := (hG.pick [2999, 3999] (by decide) hM).conv (by
        show [R9 L9 α 2999, R9 L9 α 3999] = _
        rw [e0, e1])
      clear e0 e1 hM
      refine Calls.mono (impG pb PC mp cr r s loc _ _ _ hP hD) ?_
      rintro e9 u1 ⟨b0, rfl, hQ⟩
      obtain ⟨α', hα'⟩ : ∃ α' : Rega.Atoms, α' = (fun j => if j = 4 then b0 else α j) := ⟨_, rfl⟩
      have f0 : R9 (Rega.ran L9 4) α' 2999 = row (pb) 206 PC := rfl
      have f1 : R9 (Rega.ran L9 4) α' 3999 = ((mp, .map #[⟨.string ⟨#[95, 95, 115, 117, 112, 101, 114, 87, 114, 97, 112, 112, 101, 114]⟩, .agg #[.int .i32 0, .int .u32 0, .int .u32 2], 0⟩, ⟨.string ⟨#[95, 95, 115, 117, 112, 101, 114, 71, 101, 116]⟩, .agg #[.int .i32 0, .int .u32 0, .int .u32 3], 1⟩, ⟨.string ⟨#[95, 95, 112, 114, 105, 118, 97, 116, 101, 87, 114, 97, 112, 112, 101, 114]⟩, .agg #[.int .i32 0, .int .u32 0, .int .u32 4], 2⟩] 3) : Rw) := rfl
      have f2 : R9 (Rega.ran L9 4) α' 4 = row (α' 4) 223 #[.int .u32 0, .int .u32 3, .bool false, .bool false, .bool false] := rfl
      have hα : ∀ j, j % 1000 ≠ 4 → α' j = α j := fun j hj => by rw [hα']; simp only []; rw [if_neg (by omega)]
      have hb0 : α' 4 = b0 := by rw [hα']; rfl
      skip
      refine hK _ α' _ hα ?_ (step_call (st9) hL hcl hα [2999, 3999] [2999, 3999, 4] (by decide) (by decide) (by decide) (M := _) ?_ hG hQ)
      · show _ = (.agg #[.iface 220 (.pointer (some ⟨α' 4, 0, none⟩)), .int .i32 loc] : Value)
        simp only [hb0]
      · show [R9 (Rega.ran L9 4) α' 2999, R9 (Rega.ran L9 4) α' 3999, R9 (Rega.ran L9 4) α' 4] = _
        rw [f0, f1, f2]
        simp only [hb0]
        try rfl
    · intro L9 α a9 u9 K9 hL hcl hA hG hS h0 h1 hK
      replace hL : L9 5 = false := hL
      have q3 : a9.tmps[3]? = some (.slice (some ⟨sx, 0, none⟩) ln cp) := (h0 3 (by kernel_rfl)).trans rfl
      have s3 := Rega.eval_of q3
      go_simp
      exact hK _ α _ (fun _ _ => rfl) rfl (step_same (st9) hL hcl rfl rfl hG)
    · intro L9 α a9 u9 K9 hL hcl hA hG hS h0 h1 hK
      replace hL : L9 6 = false := hL
      have q13 : a9.tmps[13]? = some (.agg #[.iface 220 (.pointer (some ⟨α 4, 0, none⟩)), .int .i32 loc]) := hS 4 13 (by decide) rfl (by show 13 < 19; decide)
      have s13 := Rega.eval_of q13
      have q14 : a9.tmps[14]? = some (.slice (some ⟨sx, 0, none⟩) ln cp) := hS 5 14 (by decide) rfl (by show 14 < 19; decide)
      have s14 := Rega.eval_of q14
      go_simp
      exact hK _ α _ (fun _ _ => rfl) rfl (step_same (st9) hL hcl rfl rfl hG)
    · intro L9 α a9 u9 K9 hL hcl hA hG hS h0 h1 hK
      replace hL : L9 7 = false := hL
      have q15 : a9.tmps[15]? = some (.agg #[.iface 220 (.pointer (some ⟨α 4, 0, none⟩)), .int .i32 loc, .slice (some ⟨sx, 0, none⟩) ln cp, .int .i32 0, .int .u8 0, .int .u8 0, .bool false, .bool false]) := hS 6 15 (by decide) rfl (by show 15 < 19; decide)
      have s15 := Rega.eval_of q15
      go_simp
      exact hK _ (fun j => if j = 7 then u9.heap.size else α j) _ (fun j hj => if_neg (fun e => hj (by rw [e]))) rfl (step_alloc (st9) hL hcl rfl rfl (by decide) _ rfl hG)
    · intro L9 α a9 u9 K9 hL hcl hA hG hS h0 h1 hK
      replace hL : L9 8 = false := hL
      have q16 : a9.tmps[16]? = some (.pointer (some ⟨α 7, 0, none⟩)) := hS 7 16 (by decide) rfl (by show 16 < 19; decide)
      have s16 := Rega.eval_of q16
      go_simp
      exact hK _ α _ (fun _ _ => rfl) rfl (step_same (st9) hL hcl rfl rfl hG)
    · intro L9 α a9 u9 K9 hL hcl hA hG hS h0 h1 hK
      replace hL : L9 9 = false := hL
      have q9 : a9.tmps[9]? = some (.agg #[.int .i32 loc]) := hS 0 9 (by decide) rfl (by show 9 < 19; decide)
      have s9 := Rega.eval_of q9
      have q17 : a9.tmps[17]? = some (.iface 52 (.pointer (some ⟨α 7, 0, none⟩))) := hS 8 17 (by decide) rfl (by show 17 < 19; decide)
      have s17 := Rega.eval_of q17
      go_simp
      exact hK _ α _ (fun _ _ => rfl) rfl (step_same (st9) hL hcl rfl rfl hG)
    · intro L9 α a9 u9 K9 hL hcl hA hG hS h0 h1 hK
      replace hL : L9 10 = false := hL
      have q8 : a9.tmps[8]? = some (.pointer (some ⟨B1_1, 0, none⟩)) := (h0 8 (by kernel_rfl)).trans rfl
      have s8 := Rega.eval_of q8
      have q18 : a9.tmps[18]? = some (.agg #[.iface 52 (.pointer (some ⟨α 7, 0, none⟩)), .int .i32 loc]) := hS 9 18 (by decide) rfl (by show 18 < 19; decide)
      have s18 := Rega.eval_of q18
      have e0 : R9 L9 α 999 = row (B1_1) 30 #[.nilIface, .int .i32 0] := by
        show rCA11T999 pb PC mp loc sx ln cp B1_1 B1 L9 α = _
        unfold rCA11T999
        rw [if_neg (by rw [hL]; decide)]
      have hr := hG.rowAt 999 (act_base 999 rfl) e0
      have c0 : u9.cell? ⟨B1_1, 0, none⟩ = some (.nilIface) := hr.cell rfl
      have y0 : u9.frozen? ⟨B1_1, 0, none⟩ = false := hr.free (0)
      have c1 : u9.cell? ⟨B1_1, 1, none⟩ = some (.int .i32 0) := hr.cell rfl
      have y1 : u9.frozen? ⟨B1_1, 1, none⟩ = false := hr.free (1)
      clear hr
      have E0 := Lib.hid e0
      clear e0
      go_simp
      have e1 : R9 (Rega.ran L9 10) α 999 = row (B1_1) 30 #[.iface 52 (.pointer (some ⟨α 7, 0, none⟩)), .int .i32 loc] := by
        show rCA11T999 pb PC mp loc sx ln cp B1_1 B1 (Rega.ran L9 10) α = _
        unfold rCA11T999
        rw [if_pos (show Rega.ran L9 10 10 = true from rfl)]
      exact hK _ α _ (fun _ _ => rfl) rfl (step_sets (st9) hL hcl rfl 999 rfl (act_base 999 rfl) E0.out (0) [.iface 52 (.pointer (some ⟨α 7, 0, none⟩)), .int .i32 loc] (e1.trans rfl) hG)
  clear st9
  intro α u hG
  have e0 : R9 (fun k => decide (k < 11)) α 999 = row (B1_1) 30 #[.iface 52 (.pointer (some ⟨α 7, 0, none⟩)), .int .i32 loc] := by
    show rCA11T999 pb PC mp loc sx ln cp B1_1 B1 (fun k => decide (k < 11)) α = _
    unfold rCA11T999
    rw [if_pos (by decide)]
  have e1 : R9 (fun k => decide (k < 11)) α 1999 = row (B1) 28 #[.int .i32 loc] := rfl
  have e2 : R9 (fun k => decide (k < 11)) α 2999 = row (pb) 206 PC := rfl
  have e3 : R9 (fun k => decide (k < 11)) α 3999 = ((mp, .map #[⟨.string ⟨#[95, 95, 115, 117, 112, 101, 114, 87, 114, 97, 112, 112, 101, 114]⟩, .agg #[.int .i32 0, .int .u32 0, .int .u32 2], 0⟩, ⟨.string ⟨#[95, 95, 115, 117, 112, 101, 114, 71, 101, 116]⟩, .agg #[.int .i32 0, .int .u32 0, .int .u32 3], 1⟩, ⟨.string ⟨#[95, 95, 112, 114, 105, 118, 97, 116, 101, 87, 114, 97, 112, 112, 101, 114]⟩, .agg #[.int .i32 0, .int .u32 0, .int .u32 4], 2⟩] 3) : Rw) := rfl
  have e4 : R9 (fun k => decide (k < 11)) α 4 = row (α 4) 223 #[.int .u32 0, .int .u32 3, .bool false, .bool false, .bool false] := rfl
  have e5 : R9 (fun k => decide (k < 11)) α 7 = row (α 7) 56 #[.iface 220 (.pointer (some ⟨α 4, 0, none⟩)), .int .i32 loc, .slice (some ⟨sx, 0, none⟩) ln cp, .int .i32 0, .int .u8 0, .int .u8 0, .bool false, .bool false] := rfl
  have hO : Own w0 u [row (B1_1) 30 #[.iface 52 (.pointer (some ⟨α 7, 0, none⟩)), .int .i32 loc], row (B1) 28 #[.int .i32 loc], row (pb) 206 PC, ((mp, .map #[⟨.string ⟨#[95, 95, 115, 117, 112, 101, 114, 87, 114, 97, 112, 112, 101, 114]⟩, .agg #[.int .i32 0, .int .u32 0, .int .u32 2], 0⟩, ⟨.string ⟨#[95, 95, 115, 117, 112, 101, 114, 71, 101, 116]⟩, .agg #[.int .i32 0, .int .u32 0, .int .u32 3], 1⟩, ⟨.string ⟨#[95, 95, 112, 114, 105, 118, 97, 116, 101, 87, 114, 97, 112, 112, 101, 114]⟩, .agg #[.int .i32 0, .int .u32 0, .int .u32 4], 2⟩] 3) : Rw), row (α 4) 223 #[.int .u32 0, .int .u32 3, .bool false, .bool false, .bool false], row (α 7) 56 #[.iface 220 (.pointer (some ⟨α 4, 0, none⟩)), .int .i32 loc, .slice (some ⟨sx, 0, none⟩) ln cp, .int .i32 0, .int .u8 0, .int .u8 0, .bool false, .bool false]] X := (hG.list [999, 1999, 2999, 3999, 4, 7] (by decide) (act_all (by decide))).conv (by
    show [R9 (fun k => decide (k < 11)) α 999, R9 (fun k => decide (k < 11)) α 1999, R9 (fun k => decide (k < 11)) α 2999, R9 (fun k => decide (k < 11)) α 3999, R9 (fun k => decide (k < 11)) α 4, R9 (fun k => decide (k < 11)) α 7] = _
    rw [e0, e1, e2, e3, e4, e5])
  clear hG e0 e1 e2 e3 e4 e5 R9
  generalize hfr : Rega.frameAt _ _ _ _ _ = fr
  have hdf : fr = ⟨#[.pointer (some ⟨pb, 0, none⟩), .agg #[.int .i32 loc], .string ⟨#[95, 95, 115, 117, 112, 101, 114, 71, 101, 116]⟩, .slice (some ⟨sx, 0, none⟩) ln cp, undef, .pointer (some ⟨B1, 0, none⟩), undef, undef, .pointer (some ⟨B1_1, 0, none⟩), .agg #[.int .i32 loc], .pointer (some ⟨pb, 0, none⟩), .agg #[.int .i32 loc], .string ⟨#[95, 95, 115, 117, 112, 101, 114, 71, 101, 116]⟩, .agg #[.iface 220 (.pointer (some ⟨α 4, 0, none⟩)), .int .i32 loc], .slice (some ⟨sx, 0, none⟩) ln cp, .agg #[.iface 220 (.pointer (some ⟨α 4, 0, none⟩)), .int .i32 loc, .slice (some ⟨sx, 0, none⟩) ln cp, .int .i32 0, .int .u8 0, .int .u8 0, .bool false, .bool false], .pointer (some ⟨α 7, 0, none⟩), .iface 52 (.pointer (some ⟨α 7, 0, none⟩)), .agg #[.iface 52 (.pointer (some ⟨α 7, 0, none⟩)), .int .i32 loc]], []⟩ := by rw [← hfr]; kernel_rfl
  clear hfr
  subst hdf
  generalize α 4 = nd3 at hO ⊢
  generalize α 7 = nd4 at hO ⊢
  clear α
  obtain ⟨c9_0_0, c9_0_1, lt9_0, y9_0, -⟩ := hO.k2 0 rfl
  obtain ⟨c9_1_0, lt9_1, y9_1, -⟩ := hO.k1 1 rfl
  have c9_2_32 : u.cell? ⟨pb, 32, none⟩ = some (.bool false) := hO.cell 2 rfl (32) (hD.ts)
  have c9_2_95 : u.cell? ⟨pb, 95, none⟩ = some (.bool r) := hO.cell 2 rfl (95) (hD.rep)
  have c9_2_96 : u.cell? ⟨pb, 96, none⟩ = some (.bool s) := hO.cell 2 rfl (96) (hD.stat)
  have c9_2_97 : u.cell? ⟨pb, 97, none⟩ = some (.pointer (some ⟨cr, 0, none⟩)) := hO.cell 2 rfl (97) (hD.cls)
  have c9_2_117 : u.cell? ⟨pb, 117, none⟩ = some (.map (some mp)) := hO.cell 2 rfl (117) (hD.imp)
  have c9_2_350 : u.cell? ⟨pb, 350, none⟩ = some (.bool true) := hO.cell 2 rfl (350) (hD.dead)
  have lt9_2 : pb < u.heap.size := hO.lt 2 rfl
  have y9_2 : ∀ o, u.frozen? ⟨pb, o, none⟩ = false := hO.free 2 rfl
  obtain ⟨c9_4_0, c9_4_1, c9_4_2, c9_4_3, c9_4_4, lt9_4, y9_4, -⟩ := hO.k5 4 rfl
  obtain ⟨c9_5_0, c9_5_1, c9_5_2, c9_5_3, c9_5_4, c9_5_5, c9_5_6, c9_5_7, lt9_5, y9_5, -⟩ := hO.k8 5 rfl
  have HO := Lib.hid hO
  clear hO
  go_wp2_with (first | (with_reducible refine Own.stay (fn := Tryd.f48) ?_) | fail)
  try with_reducible refine Own.Stay.mk ?_
  have hO := HO.out
  clear HO c9_0_0 c9_0_1 lt9_0 y9_0 c9_1_0 lt9_1 y9_1 c9_2_32 c9_2_95 c9_2_96 c9_2_97 c9_2_117 c9_2_350 lt9_2 y9_2 c9_4_0 c9_4_1 c9_4_2 c9_4_3 c9_4_4 lt9_4 y9_4 c9_5_0 c9_5_1 c9_5_2 c9_5_3 c9_5_4 c9_5_5 c9_5_6 c9_5_7 lt9_5 y9_5
  have z9_0_0 : u.cell? ⟨B1_1, 0, none⟩ = some (.iface 52 (.pointer (some ⟨nd4, 0, none⟩))) := hO.cell 0 rfl 0 rfl
  have z9_0_1 : u.cell? ⟨B1_1, 1, none⟩ = some (.int .i32 loc) := hO.cell 0 rfl 1 rfl
  refine bodyPost_ret (v := .agg #[.iface 52 (.pointer (some ⟨nd4, 0, none⟩)), .int .i32 loc]) ?_ rfl ⟨nd4, nd3, rfl, hO.sub [2, 3, 4, 5] (by decide)⟩
  simp [results, Tryd.results48, go_sem, z9_0_0, z9_0_1]
end Go.Proofs.YtcbdjbjbikiaeaaDoor.Use
