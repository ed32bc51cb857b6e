/- A spread, an object whose value is lowered. No condition. -/
import Derived.Test.YtcbdjbjbikiaeaaDoorHot
import Derived.Test.YtcbdjbjbikiaeaaDoorStr
import Derived.Test.YtcbdjbjbikiaeaaDoorUni
import Derived.Test.YtcbdjbjbikiaeaaDoorItm
import Derived.Test.YtcbdjbjbikiaeaaDoorOwn
import Derived.Test.YtcbdjbjbikiaeaaDoorOwnK
import Derived.Test.YtcbdjbjbikiaeaaDoorLoop
import Derived.Test.YtcbdjbjbikiaeaaDoorApp
import Derived.Test.YtcbdjbjbikiaeaaDoorDeepCells
import Derived.Test.YtcbdjbjbikiaeaaDoorRows
import Derived.Test.YtcbdjbjbikiaeaaDoorDead
namespace Go.Proofs.YtcbdjbjbikiaeaaDoor.Use
open Go.ChangeShapes Go.WideShapes Go.ChangeAt Go.RowKit Go.Sort Own
set_option linter.unusedVariables false
def hotsPost (pb : Nat) (PC : Array Value) (mp cr : Nat) (r s : Bool) (loc : Int) (d kx : Nat) (tl nl : Int) (nm : ByteArray) (b : Nat) (dl : Int) (w0 : World) (X : Nat → Obj → Prop) (e : Ending) (w' : World) : Prop :=
  ∃ ca : Nat, ∃ dd : Nat, e = .returned (.tuple #[.agg #[.iface 227 (.pointer (some ⟨b, 0, none⟩)), .int .i32 loc], .bool true]) ∧ Own w0 w' [row (pb) 206 PC, ((mp, .map #[⟨.string ⟨#[95, 95, 115, 117, 112, 101, 114, 87, 114, 97, 112, 112, 101, 114]⟩, .agg #[.int .i32 0, .int .u32 0, .int .u32 2], 0⟩, ⟨.string ⟨#[95, 95, 115, 117, 112, 101, 114, 71, 101, 116]⟩, .agg #[.int .i32 0, .int .u32 0, .int .u32 3], 1⟩, ⟨.string ⟨#[95, 95, 112, 114, 105, 118, 97, 116, 101, 87, 114, 97, 112, 112, 101, 114]⟩, .agg #[.int .i32 0, .int .u32 0, .int .u32 4], 2⟩] 3) : Rw), row (cr) 68 #[.int .u32 0, .int .u32 1], row (b) 234 #[.iface 40 (.pointer (some ⟨dd, 0, none⟩)), .int .i32 dl], row (dd) 44 #[.iface 52 (.pointer (some ⟨ca, 0, none⟩)), .int .i32 dl, .string ⟨#[95]⟩, .int .i32 dl, .int .u8 0, .bool false, .bool false, .bool false]] X
set_option maxRecDepth 100000 in
set_option maxHeartbeats 2000000 in
theorem hots (pb : Nat) (PC : Array Value) (mp cr : Nat) (r s : Bool) (loc : Int) (d kx : Nat) (tl nl : Int) (nm : ByteArray) (b : Nat) (dl : Int) (w0 w : World) (X : Nat → Obj → Prop) (hO : Own w0 w [row (pb) 206 PC, ((mp, .map #[⟨.string ⟨#[95, 95, 115, 117, 112, 101, 114, 87, 114, 97, 112, 112, 101, 114]⟩, .agg #[.int .i32 0, .int .u32 0, .int .u32 2], 0⟩, ⟨.string ⟨#[95, 95, 115, 117, 112, 101, 114, 71, 101, 116]⟩, .agg #[.int .i32 0, .int .u32 0, .int .u32 3], 1⟩, ⟨.string ⟨#[95, 95, 112, 114, 105, 118, 97, 116, 101, 87, 114, 97, 112, 112, 101, 114]⟩, .agg #[.int .i32 0, .int .u32 0, .int .u32 4], 2⟩] 3) : Rw), row (cr) 68 #[.int .u32 0, .int .u32 1], row (b) 234 #[.iface 40 (.pointer (some ⟨d, 0, none⟩)), .int .i32 dl]] X) (hD : Dead PC mp cr r s) (hl : PC[338]? = some (.bool true)) (hlen : nm.size ≤ 1048576) (hxd : X d (.cells #[.iface 244 (.pointer (some ⟨kx, 0, none⟩)), .int .i32 tl, .string nm, .int .i32 nl, .int .u8 0, .bool false, .bool false, .bool false] 44 (0, 0))) :
    Calls Tryd.prog 35 #[.pointer (some ⟨pb, 0, none⟩), .agg #[.iface 227 (.pointer (some ⟨b, 0, none⟩)), .int .i32 loc]] w (hotsPost pb PC mp cr r s loc d kx tl nl nm b dl w0 X) := by
  go_enter Tryd.func35, Tryd.ntmps35
  obtain ⟨c9_2_0, c9_2_1, lt9_2, y9_2, -⟩ := hO.k2 2 rfl
  obtain ⟨c9_3_0, c9_3_1, lt9_3, y9_3, -⟩ := hO.k2 3 rfl
  have HO := Lib.hid hO
  clear hO
  go_wp2_with (first | (with_reducible refine Own.stay (fn := Tryd.f35) ?_) | (first | (go_at_call 34; go_in)))
  try with_reducible refine Own.Stay.mk ?_
  have hO := HO.out
  clear HO c9_2_0 c9_2_1 lt9_2 y9_2 c9_3_0 c9_3_1 lt9_3 y9_3
  generalize hW : World.alloc _ _ = W2
  have hN : Own w0 W2 [row (w.heap.size + 1) 30 #[.nilIface, .int .i32 0], row (w.heap.size) 30 #[.iface 227 (.pointer (some ⟨b, 0, none⟩)), .int .i32 loc], row (pb) 206 PC, ((mp, .map #[⟨.string ⟨#[95, 95, 115, 117, 112, 101, 114, 87, 114, 97, 112, 112, 101, 114]⟩, .agg #[.int .i32 0, .int .u32 0, .int .u32 2], 0⟩, ⟨.string ⟨#[95, 95, 115, 117, 112, 101, 114, 71, 101, 116]⟩, .agg #[.int .i32 0, .int .u32 0, .int .u32 3], 1⟩, ⟨.string ⟨#[95, 95, 112, 114, 105, 118, 97, 116, 101, 87, 114, 97, 112, 112, 101, 114]⟩, .agg #[.int .i32 0, .int .u32 0, .int .u32 4], 2⟩] 3) : Rw), row (cr) 68 #[.int .u32 0, .int .u32 1], row (b) 234 #[.iface 40 (.pointer (some ⟨d, 0, none⟩)), .int .i32 dl]] X := by
    rw [← hW]
    exact ((hO).alloc' _ (w.heap.size) (by simp)).alloc' _ (w.heap.size + 1) (by simp)
  clear hW hO
  generalize w.heap.size + 1 = B1_1 at hN ⊢
  generalize w.heap.size = B1 at hN ⊢
  have hO := hN
  clear hN
  have hL := hO.apart
  have hX := hO.apartX
  have HL := Lib.hid hL
  have HX := Lib.hid hX
  clear hL hX
  have hP9 := hO.pick [2, 3, 4] (by decide)
  have T9 := hotd pb PC mp cr r s dl d _ _ _ _ _ _ _ hP9 hD hl hlen (Or.inl hxd)
  refine Calls.mono T9 ?_
  clear hP9 T9
  rintro e uw3 ⟨nd4, nd5, rfl, hQ⟩
  have hN : Own w0 uw3 [row (pb) 206 PC, ((mp, .map #[⟨.string ⟨#[95, 95, 115, 117, 112, 101, 114, 87, 114, 97, 112, 112, 101, 114]⟩, .agg #[.int .i32 0, .int .u32 0, .int .u32 2], 0⟩, ⟨.string ⟨#[95, 95, 115, 117, 112, 101, 114, 71, 101, 116]⟩, .agg #[.int .i32 0, .int .u32 0, .int .u32 3], 1⟩, ⟨.string ⟨#[95, 95, 112, 114, 105, 118, 97, 116, 101, 87, 114, 97, 112, 112, 101, 114]⟩, .agg #[.int .i32 0, .int .u32 0, .int .u32 4], 2⟩] 3) : Rw), row (cr) 68 #[.int .u32 0, .int .u32 1], row (nd5) 44 #[.iface 52 (.pointer (some ⟨nd4, 0, none⟩)), .int .i32 dl, .string ⟨#[95]⟩, .int .i32 dl, .int .u8 0, .bool false, .bool false, .bool false], row (B1_1) 30 #[.nilIface, .int .i32 0], row (B1) 30 #[.iface 227 (.pointer (some ⟨b, 0, none⟩)), .int .i32 loc], row (b) 234 #[.iface 40 (.pointer (some ⟨d, 0, none⟩)), .int .i32 dl]] X := hQ.back HL.out HX.out [0, 1, 5] (by decide) (by decide)
  clear hQ HL HX hO
  have hO := hN
  clear hN
  obtain ⟨ix9, hix9, hax9, hjx9⟩ := hO.ix
  have ix9_0 : ix9 pb = 0 := hjx9 0 _ _ rfl
  have ix9_1 : ix9 mp = 1 := hjx9 1 _ _ rfl
  have ix9_2 : ix9 cr = 2 := hjx9 2 _ _ rfl
  have ix9_3 : ix9 nd5 = 3 := hjx9 3 _ _ rfl
  have ix9_4 : ix9 B1_1 = 4 := hjx9 4 _ _ rfl
  have ix9_5 : ix9 B1 = 5 := hjx9 5 _ _ rfl
  have ix9_6 : ix9 b = 6 := hjx9 6 _ _ rfl
  clear hjx9
  have c9_0_32 : uw3.cell? ⟨pb, 32, none⟩ = some (.bool false) := hO.cell 0 rfl (32) (hD.ts)
  have c9_0_95 : uw3.cell? ⟨pb, 95, none⟩ = some (.bool r) := hO.cell 0 rfl (95) (hD.rep)
  have c9_0_96 : uw3.cell? ⟨pb, 96, none⟩ = some (.bool s) := hO.cell 0 rfl (96) (hD.stat)
  have c9_0_97 : uw3.cell? ⟨pb, 97, none⟩ = some (.pointer (some ⟨cr, 0, none⟩)) := hO.cell 0 rfl (97) (hD.cls)
  have c9_0_117 : uw3.cell? ⟨pb, 117, none⟩ = some (.map (some mp)) := hO.cell 0 rfl (117) (hD.imp)
  have c9_0_338 : uw3.cell? ⟨pb, 338, none⟩ = some (.bool true) := hO.cell 0 rfl (338) (hl)
  have c9_0_350 : uw3.cell? ⟨pb, 350, none⟩ = some (.bool true) := hO.cell 0 rfl (350) (hD.dead)
  have lt9_0 : pb < uw3.heap.size := hO.lt 0 rfl
  have y9_0 : ∀ o, uw3.frozen? ⟨pb, o, none⟩ = false := hO.free 0 rfl
  obtain ⟨c9_2_0, c9_2_1, lt9_2, y9_2, -⟩ := hO.k2 2 rfl
  obtain ⟨c9_3_0, c9_3_1, c9_3_2, c9_3_3, c9_3_4, c9_3_5, c9_3_6, c9_3_7, lt9_3, y9_3, -⟩ := hO.k8 3 rfl
  obtain ⟨c9_4_0, c9_4_1, lt9_4, y9_4, pl9_4⟩ := hO.k2 4 rfl
  obtain ⟨c9_5_0, c9_5_1, lt9_5, y9_5, pl9_5⟩ := hO.k2 5 rfl
  obtain ⟨c9_6_0, c9_6_1, lt9_6, y9_6, -⟩ := hO.k2 6 rfl
  have HO := Lib.hid hO
  clear hO
  go_wp2_with (first | (with_reducible refine Own.stay (fn := Tryd.f35) ?_) | (first | (go_at_call 34; go_in)))
  try with_reducible refine Own.Stay.mk ?_
  have hO := HO.out
  clear HO hix9 hax9 ix9_0 ix9_1 ix9_2 ix9_3 ix9_4 ix9_5 ix9_6 ix9 c9_0_32 c9_0_95 c9_0_96 c9_0_97 c9_0_117 c9_0_338 c9_0_350 lt9_0 y9_0 c9_2_0 c9_2_1 lt9_2 y9_2 c9_3_0 c9_3_1 c9_3_2 c9_3_3 c9_3_4 c9_3_5 c9_3_6 c9_3_7 lt9_3 y9_3 c9_4_0 c9_4_1 lt9_4 y9_4 pl9_4 c9_5_0 c9_5_1 lt9_5 y9_5 pl9_5 c9_6_0 c9_6_1 lt9_6 y9_6
  generalize hW : World.alloc _ _ = W7
  have hN : Own w0 W7 [row (uw3.heap.size) 30 #[.iface 40 (.pointer (some ⟨nd5, 0, none⟩)), .int .i32 dl], row (pb) 206 PC, ((mp, .map #[⟨.string ⟨#[95, 95, 115, 117, 112, 101, 114, 87, 114, 97, 112, 112, 101, 114]⟩, .agg #[.int .i32 0, .int .u32 0, .int .u32 2], 0⟩, ⟨.string ⟨#[95, 95, 115, 117, 112, 101, 114, 71, 101, 116]⟩, .agg #[.int .i32 0, .int .u32 0, .int .u32 3], 1⟩, ⟨.string ⟨#[95, 95, 112, 114, 105, 118, 97, 116, 101, 87, 114, 97, 112, 112, 101, 114]⟩, .agg #[.int .i32 0, .int .u32 0, .int .u32 4], 2⟩] 3) : Rw), row (cr) 68 #[.int .u32 0, .int .u32 1], row (nd5) 44 #[.iface 52 (.pointer (some ⟨nd4, 0, none⟩)), .int .i32 dl, .string ⟨#[95]⟩, .int .i32 dl, .int .u8 0, .bool false, .bool false, .bool false], row (B1_1) 30 #[.iface 227 (.pointer (some ⟨b, 0, none⟩)), .int .i32 loc], row (B1) 30 #[.iface 227 (.pointer (some ⟨b, 0, none⟩)), .int .i32 loc], row (b) 234 #[.iface 40 (.pointer (some ⟨nd5, 0, none⟩)), .int .i32 dl]] X := by
    rw [← hW]
    exact (((((hO).set 6 rfl 0 _).set 6 rfl 1 _).set 4 rfl 0 _).set 4 rfl 1 _).alloc' _ (uw3.heap.size) (by simp)
  clear hW hO
  generalize uw3.heap.size = B6 at hN ⊢
  have hO := hN
  clear hN
  have z9_5_0 : W7.cell? ⟨B1_1, 0, none⟩ = some (.iface 227 (.pointer (some ⟨b, 0, none⟩))) := hO.cell 5 rfl 0 rfl
  have z9_5_1 : W7.cell? ⟨B1_1, 1, none⟩ = some (.int .i32 loc) := hO.cell 5 rfl 1 rfl
  refine bodyPost_ret (v := .tuple #[.agg #[.iface 227 (.pointer (some ⟨b, 0, none⟩)), .int .i32 loc], .bool true]) ?_ rfl ⟨nd4, nd5, rfl, hO.sub [1, 2, 3, 7, 4] (by decide)⟩
  simp [results, Tryd.results35, go_sem, z9_5_0, z9_5_1]
def rHob1E (d : Nat) (b : Nat) (pp : Nat) (dl : Int) (nd7 : Nat) (B8 : Nat) : Nat → Rega.Atoms → Value
  | 0, α => .pointer (some ⟨b, 0, none⟩)
  | 1, α => .pointer (some ⟨b, 0, none⟩)
  | 2, α => .pointer (some ⟨b, 0, none⟩)
  | 3, α => .slice (some ⟨pp, 0, none⟩) 1 1
  | 4, α => .int .i64 0
  | 5, α => .agg #[.iface 40 (.pointer (some ⟨nd7, 0, none⟩)), .int .i32 dl]
  | 6, α => .pointer (some ⟨pp, 0, none⟩)
  | 7, α => .pointer (some ⟨pp, 3, none⟩)
  | 8, α => undef
  | _, _ => undef
def rHob1Anc : Nat → List Nat
  | 1 => [0]
  | 2 => [0, 1]
  | 3 => [0, 1, 2]
  | 6 => [0, 1, 2, 3, 4, 5]
  | 7 => [0, 1, 2, 3, 4, 5, 6]
  | 8 => [0, 1, 2, 3, 4, 5, 6, 7]
  | _ => []
def rHob1Trn : Nat → List Nat
  | 8 => [1999]
  | _ => []
def rHob1Cnt : List (Nat × Nat) := []
def rHob1T1999 (d : Nat) (b : Nat) (pp : Nat) (dl : Int) (nd7 : Nat) (B8 : Nat) (L9 : Nat → Bool) (α : Rega.Atoms) : Rw := if L9 8 = true then row (pp) 243 #[.pointer none, .nilIface, .int .i32 0, .iface 40 (.pointer (some ⟨nd7, 0, none⟩)), .int .i32 dl, .nilIface, .int .i32 0, .slice none 0 0, .int .i32 0, .int .i32 0, .int .u8 0, .int .u8 0] else row (pp) 243 #[.pointer none, .nilIface, .int .i32 0, .iface 40 (.pointer (some ⟨d, 0, none⟩)), .int .i32 dl, .nilIface, .int .i32 0, .slice none 0 0, .int .i32 0, .int .i32 0, .int .u8 0, .int .u8 0]
def rHob1R (d : Nat) (b : Nat) (pp : Nat) (dl : Int) (nd7 : Nat) (B8 : Nat) (L9 : Nat → Bool) (α : Rega.Atoms) (ix9 : Nat) : Rw := if ix9 = 999 then row (B8) 30 #[.iface 40 (.pointer (some ⟨nd7, 0, none⟩)), .int .i32 dl] else if ix9 = 1999 then rHob1T1999 d b pp dl nd7 B8 L9 α else (0, .map #[] 0)
theorem rHob1_he (d : Nat) (b : Nat) (pp : Nat) (dl : Int) (nd7 : Nat) (B8 : Nat) : ∀ kk α α', (∀ j, (j % 1000 = kk ∨ j % 1000 ∈ rHob1Anc kk) → α j = α' j) → rHob1E d b pp dl nd7 B8 kk α = rHob1E d b pp dl nd7 B8 kk α' := by
  intro kk α α' h
  match kk with
  | 0 => rfl
  | 1 => rfl
  | 2 => rfl
  | 3 => rfl
  | 4 => rfl
  | 5 => rfl
  | 6 => rfl
  | 7 => rfl
  | 8 => rfl
  | n + 9 => rfl
theorem rHob1_st (d : Nat) (b : Nat) (pp : Nat) (dl : Int) (nd7 : Nat) (B8 : Nat) : Stable rHob1Cnt 2 rHob1Anc rHob1Trn (rHob1R d b pp dl nd7 B8) := by
  intro k9 L9 α α' ix9 hk hcl hα hact ht
  have hp := act_places hact
  replace hp : ix9 ∈ [999, 1999] := hp
  simp only [List.mem_cons, List.not_mem_nil, or_false] at hp
  rcases hp with rfl | rfl
  · rfl
  · show rHob1T1999 d b pp dl nd7 B8 (Rega.ran L9 k9) α' = rHob1T1999 d b pp dl nd7 B8 L9 α
    unfold rHob1T1999
    have n8 : 8 ≠ k9 := fun e => ht (by rw [← e]; decide)
    rw [ran_ne n8]
def hotoPost (pb : Nat) (PC : Array Value) (mp cr : Nat) (r s : Bool) (loc : Int) (d kx : Nat) (tl nl : Int) (nm : ByteArray) (b pp : Nat) (dl : Int) (w0 : World) (X : Nat → Obj → Prop) (e : Ending) (w' : World) : Prop :=
  ∃ ca : Nat, ∃ dd : Nat, e = .returned (.tuple #[.agg #[.iface 229 (.pointer (some ⟨b, 0, none⟩)), .int .i32 loc], .bool true]) ∧ Own w0 w' [row (pb) 206 PC, ((mp, .map #[⟨.string ⟨#[95, 95, 115, 117, 112, 101, 114, 87, 114, 97, 112, 112, 101, 114]⟩, .agg #[.int .i32 0, .int .u32 0, .int .u32 2], 0⟩, ⟨.string ⟨#[95, 95, 115, 117, 112, 101, 114, 71, 101, 116]⟩, .agg #[.int .i32 0, .int .u32 0, .int .u32 3], 1⟩, ⟨.string ⟨#[95, 95, 112, 114, 105, 118, 97, 116, 101, 87, 114, 97, 112, 112, 101, 114]⟩, .agg #[.int .i32 0, .int .u32 0, .int .u32 4], 2⟩] 3) : Rw), row (cr) 68 #[.int .u32 0, .int .u32 1], row (pp) 243 #[.pointer none, .nilIface, .int .i32 0, .iface 40 (.pointer (some ⟨dd, 0, none⟩)), .int .i32 dl, .nilIface, .int .i32 0, .slice none 0 0, .int .i32 0, .int .i32 0, .int .u8 0, .int .u8 0], row (dd) 44 #[.iface 52 (.pointer (some ⟨ca, 0, none⟩)), .int .i32 dl, .string ⟨#[95]⟩, .int .i32 dl, .int .u8 0, .bool false, .bool false, .bool false]] X
set_option maxRecDepth 100000 in
set_option maxHeartbeats 2000000 in
theorem hoto (pb : Nat) (PC : Array Value) (mp cr : Nat) (r s : Bool) (loc : Int) (d kx : Nat) (tl nl : Int) (nm : ByteArray) (b pp : Nat) (dl : Int) (w0 w : World) (X : Nat → Obj → Prop) (hO : Own w0 w [row (pb) 206 PC, ((mp, .map #[⟨.string ⟨#[95, 95, 115, 117, 112, 101, 114, 87, 114, 97, 112, 112, 101, 114]⟩, .agg #[.int .i32 0, .int .u32 0, .int .u32 2], 0⟩, ⟨.string ⟨#[95, 95, 115, 117, 112, 101, 114, 71, 101, 116]⟩, .agg #[.int .i32 0, .int .u32 0, .int .u32 3], 1⟩, ⟨.string ⟨#[95, 95, 112, 114, 105, 118, 97, 116, 101, 87, 114, 97, 112, 112, 101, 114]⟩, .agg #[.int .i32 0, .int .u32 0, .int .u32 4], 2⟩] 3) : Rw), row (cr) 68 #[.int .u32 0, .int .u32 1], row (pp) 243 #[.pointer none, .nilIface, .int .i32 0, .iface 40 (.pointer (some ⟨d, 0, none⟩)), .int .i32 dl, .nilIface, .int .i32 0, .slice none 0 0, .int .i32 0, .int .i32 0, .int .u8 0, .int .u8 0]] X) (hD : Dead PC mp cr r s) (hl : PC[338]? = some (.bool true)) (hlen : nm.size ≤ 1048576) (hxd : X d (.cells #[.iface 244 (.pointer (some ⟨kx, 0, none⟩)), .int .i32 tl, .string nm, .int .i32 nl, .int .u8 0, .bool false, .bool false, .bool false] 44 (0, 0))) (hxo : X b (.cells #[.slice (some ⟨pp, 0, none⟩) 1 1, .int .i32 0, .int .i32 0, .bool false, .bool false] 237 (0, 0))) :
    Calls Tryd.prog 35 #[.pointer (some ⟨pb, 0, none⟩), .agg #[.iface 229 (.pointer (some ⟨b, 0, none⟩)), .int .i32 loc]] w (hotoPost pb PC mp cr r s loc d kx tl nl nm b pp dl w0 X) := by
  go_enter Tryd.func35, Tryd.ntmps35
  obtain ⟨c9_2_0, c9_2_1, lt9_2, y9_2, -⟩ := hO.k2 2 rfl
  have c9_3_0 : w.cell? ⟨pp, 0, none⟩ = some (.pointer none) := hO.cell 3 rfl (0) rfl
  have c9_3_1 : w.cell? ⟨pp, 1, none⟩ = some (.nilIface) := hO.cell 3 rfl (1) rfl
  have c9_3_2 : w.cell? ⟨pp, 2, none⟩ = some (.int .i32 0) := hO.cell 3 rfl (2) rfl
  have c9_3_3 : w.cell? ⟨pp, 3, none⟩ = some (.iface 40 (.pointer (some ⟨d, 0, none⟩))) := hO.cell 3 rfl (3) rfl
  have c9_3_4 : w.cell? ⟨pp, 4, none⟩ = some (.int .i32 dl) := hO.cell 3 rfl (4) rfl
  have c9_3_5 : w.cell? ⟨pp, 5, none⟩ = some (.nilIface) := hO.cell 3 rfl (5) rfl
  have c9_3_6 : w.cell? ⟨pp, 6, none⟩ = some (.int .i32 0) := hO.cell 3 rfl (6) rfl
  have c9_3_7 : w.cell? ⟨pp, 7, none⟩ = some (.slice none 0 0) := hO.cell 3 rfl (7) rfl
  have c9_3_8 : w.cell? ⟨pp, 8, none⟩ = some (.int .i32 0) := hO.cell 3 rfl (8) rfl
  have c9_3_9 : w.cell? ⟨pp, 9, none⟩ = some (.int .i32 0) := hO.cell 3 rfl (9) rfl
  have c9_3_10 : w.cell? ⟨pp, 10, none⟩ = some (.int .u8 0) := hO.cell 3 rfl (10) rfl
  have c9_3_11 : w.cell? ⟨pp, 11, none⟩ = some (.int .u8 0) := hO.cell 3 rfl (11) rfl
  have lt9_3 : pp < w.heap.size := hO.lt 3 rfl
  have y9_3 : ∀ o, w.frozen? ⟨pp, o, none⟩ = false := hO.free 3 rfl
  have HO := Lib.hid hO
  clear hO
  have fo0 : w.cell? ⟨b, 0, none⟩ = some (.slice (some ⟨pp, 0, none⟩) 1 1) := Base.RowAt.cell (show Base.RowAt w b 237 #[.slice (some ⟨pp, 0, none⟩) 1 1, .int .i32 0, .int .i32 0, .bool false, .bool false] from (HO.out.frame _ _ hxo).2.1) rfl
  have fo1 : w.cell? ⟨b, 1, none⟩ = some (.int .i32 0) := Base.RowAt.cell (show Base.RowAt w b 237 #[.slice (some ⟨pp, 0, none⟩) 1 1, .int .i32 0, .int .i32 0, .bool false, .bool false] from (HO.out.frame _ _ hxo).2.1) rfl
  have fo2 : w.cell? ⟨b, 2, none⟩ = some (.int .i32 0) := Base.RowAt.cell (show Base.RowAt w b 237 #[.slice (some ⟨pp, 0, none⟩) 1 1, .int .i32 0, .int .i32 0, .bool false, .bool false] from (HO.out.frame _ _ hxo).2.1) rfl
  have fo3 : w.cell? ⟨b, 3, none⟩ = some (.bool false) := Base.RowAt.cell (show Base.RowAt w b 237 #[.slice (some ⟨pp, 0, none⟩) 1 1, .int .i32 0, .int .i32 0, .bool false, .bool false] from (HO.out.frame _ _ hxo).2.1) rfl
  have fo4 : w.cell? ⟨b, 4, none⟩ = some (.bool false) := Base.RowAt.cell (show Base.RowAt w b 237 #[.slice (some ⟨pp, 0, none⟩) 1 1, .int .i32 0, .int .i32 0, .bool false, .bool false] from (HO.out.frame _ _ hxo).2.1) rfl
  have fol : b < w.heap.size := Base.block_of_cell fo0
  go_wp2_with (first | (with_reducible refine Own.stay (fn := Tryd.f35) ?_) | (first | (go_at_call 34; go_in)))
  try with_reducible refine Own.Stay.mk ?_
  have hO := HO.out
  clear HO fo0 fo1 fo2 fo3 fo4 fol c9_2_0 c9_2_1 lt9_2 y9_2 c9_3_0 c9_3_1 c9_3_2 c9_3_3 c9_3_4 c9_3_5 c9_3_6 c9_3_7 c9_3_8 c9_3_9 c9_3_10 c9_3_11 lt9_3 y9_3
  generalize hW : World.alloc _ _ = W2
  have hN : Own w0 W2 [row (w.heap.size + 1) 30 #[.nilIface, .int .i32 0], row (w.heap.size) 30 #[.iface 229 (.pointer (some ⟨b, 0, none⟩)), .int .i32 loc], row (pb) 206 PC, ((mp, .map #[⟨.string ⟨#[95, 95, 115, 117, 112, 101, 114, 87, 114, 97, 112, 112, 101, 114]⟩, .agg #[.int .i32 0, .int .u32 0, .int .u32 2], 0⟩, ⟨.string ⟨#[95, 95, 115, 117, 112, 101, 114, 71, 101, 116]⟩, .agg #[.int .i32 0, .int .u32 0, .int .u32 3], 1⟩, ⟨.string ⟨#[95, 95, 112, 114, 105, 118, 97, 116, 101, 87, 114, 97, 112, 112, 101, 114]⟩, .agg #[.int .i32 0, .int .u32 0, .int .u32 4], 2⟩] 3) : Rw), row (cr) 68 #[.int .u32 0, .int .u32 1], row (pp) 243 #[.pointer none, .nilIface, .int .i32 0, .iface 40 (.pointer (some ⟨d, 0, none⟩)), .int .i32 dl, .nilIface, .int .i32 0, .slice none 0 0, .int .i32 0, .int .i32 0, .int .u8 0, .int .u8 0]] X := by
    rw [← hW]
    exact ((hO).alloc' _ (w.heap.size) (by simp)).alloc' _ (w.heap.size + 1) (by simp)
  clear hW hO
  generalize w.heap.size + 1 = B1_1 at hN ⊢
  generalize w.heap.size = B1 at hN ⊢
  have hO := hN
  clear hN
  go_loopg [6, 222] 2 (fun gf s6 s222 wx => (gf = 2 ∧ s6 = .bool false ∧ s222 = .int .i64 0 ∧ Own w0 wx [row (B1_1) 30 #[.nilIface, .int .i32 0], row (B1) 30 #[.iface 229 (.pointer (some ⟨b, 0, none⟩)), .int .i32 loc], row (pb) 206 PC, ((mp, .map #[⟨.string ⟨#[95, 95, 115, 117, 112, 101, 114, 87, 114, 97, 112, 112, 101, 114]⟩, .agg #[.int .i32 0, .int .u32 0, .int .u32 2], 0⟩, ⟨.string ⟨#[95, 95, 115, 117, 112, 101, 114, 71, 101, 116]⟩, .agg #[.int .i32 0, .int .u32 0, .int .u32 3], 1⟩, ⟨.string ⟨#[95, 95, 112, 114, 105, 118, 97, 116, 101, 87, 114, 97, 112, 112, 101, 114]⟩, .agg #[.int .i32 0, .int .u32 0, .int .u32 4], 2⟩] 3) : Rw), row (cr) 68 #[.int .u32 0, .int .u32 1], row (pp) 243 #[.pointer none, .nilIface, .int .i32 0, .iface 40 (.pointer (some ⟨d, 0, none⟩)), .int .i32 dl, .nilIface, .int .i32 0, .slice none 0 0, .int .i32 0, .int .i32 0, .int .u8 0, .int .u8 0]] X) ∨ (gf = 1 ∧ s6 = .bool true ∧ s222 = .int .i64 1 ∧ ∃ ca dd : Nat, Own w0 wx [row (B1_1) 30 #[.nilIface, .int .i32 0], row (B1) 30 #[.iface 229 (.pointer (some ⟨b, 0, none⟩)), .int .i32 loc], row (pb) 206 PC, ((mp, .map #[⟨.string ⟨#[95, 95, 115, 117, 112, 101, 114, 87, 114, 97, 112, 112, 101, 114]⟩, .agg #[.int .i32 0, .int .u32 0, .int .u32 2], 0⟩, ⟨.string ⟨#[95, 95, 115, 117, 112, 101, 114, 71, 101, 116]⟩, .agg #[.int .i32 0, .int .u32 0, .int .u32 3], 1⟩, ⟨.string ⟨#[95, 95, 112, 114, 105, 118, 97, 116, 101, 87, 114, 97, 112, 112, 101, 114]⟩, .agg #[.int .i32 0, .int .u32 0, .int .u32 4], 2⟩] 3) : Rw), row (cr) 68 #[.int .u32 0, .int .u32 1], row (pp) 243 #[.pointer none, .nilIface, .int .i32 0, .iface 40 (.pointer (some ⟨dd, 0, none⟩)), .int .i32 dl, .nilIface, .int .i32 0, .slice none 0 0, .int .i32 0, .int .i32 0, .int .u8 0, .int .u8 0], row (dd) 44 #[.iface 52 (.pointer (some ⟨ca, 0, none⟩)), .int .i32 dl, .string ⟨#[95]⟩, .int .i32 dl, .int .u8 0, .bool false, .bool false, .bool false]] X))
  case atStart => exact Or.inl ⟨rfl, rfl, rfl, hO⟩
  obtain ⟨rfl, rfl, rfl, hO⟩ | ⟨rfl, rfl, rfl, ca, dd, hO⟩ := hrel
  · skip
    obtain ⟨c9_0_0, c9_0_1, lt9_0, y9_0, -⟩ := hO.k2 0 rfl
    obtain ⟨c9_1_0, c9_1_1, lt9_1, y9_1, -⟩ := hO.k2 1 rfl
    obtain ⟨c9_4_0, c9_4_1, lt9_4, y9_4, -⟩ := hO.k2 4 rfl
    have c9_5_0 : wr.cell? ⟨pp, 0, none⟩ = some (.pointer none) := hO.cell 5 rfl (0) rfl
    have c9_5_1 : wr.cell? ⟨pp, 1, none⟩ = some (.nilIface) := hO.cell 5 rfl (1) rfl
    have c9_5_2 : wr.cell? ⟨pp, 2, none⟩ = some (.int .i32 0) := hO.cell 5 rfl (2) rfl
    have c9_5_3 : wr.cell? ⟨pp, 3, none⟩ = some (.iface 40 (.pointer (some ⟨d, 0, none⟩))) := hO.cell 5 rfl (3) rfl
    have c9_5_4 : wr.cell? ⟨pp, 4, none⟩ = some (.int .i32 dl) := hO.cell 5 rfl (4) rfl
    have c9_5_5 : wr.cell? ⟨pp, 5, none⟩ = some (.nilIface) := hO.cell 5 rfl (5) rfl
    have c9_5_6 : wr.cell? ⟨pp, 6, none⟩ = some (.int .i32 0) := hO.cell 5 rfl (6) rfl
    have c9_5_7 : wr.cell? ⟨pp, 7, none⟩ = some (.slice none 0 0) := hO.cell 5 rfl (7) rfl
    have c9_5_8 : wr.cell? ⟨pp, 8, none⟩ = some (.int .i32 0) := hO.cell 5 rfl (8) rfl
    have c9_5_9 : wr.cell? ⟨pp, 9, none⟩ = some (.int .i32 0) := hO.cell 5 rfl (9) rfl
    have c9_5_10 : wr.cell? ⟨pp, 10, none⟩ = some (.int .u8 0) := hO.cell 5 rfl (10) rfl
    have c9_5_11 : wr.cell? ⟨pp, 11, none⟩ = some (.int .u8 0) := hO.cell 5 rfl (11) rfl
    have lt9_5 : pp < wr.heap.size := hO.lt 5 rfl
    have y9_5 : ∀ o, wr.frozen? ⟨pp, o, none⟩ = false := hO.free 5 rfl
    have HO := Lib.hid hO
    clear hO
    have fo0 : wr.cell? ⟨b, 0, none⟩ = some (.slice (some ⟨pp, 0, none⟩) 1 1) := Base.RowAt.cell (show Base.RowAt wr b 237 #[.slice (some ⟨pp, 0, none⟩) 1 1, .int .i32 0, .int .i32 0, .bool false, .bool false] from (HO.out.frame _ _ hxo).2.1) rfl
    have fo1 : wr.cell? ⟨b, 1, none⟩ = some (.int .i32 0) := Base.RowAt.cell (show Base.RowAt wr b 237 #[.slice (some ⟨pp, 0, none⟩) 1 1, .int .i32 0, .int .i32 0, .bool false, .bool false] from (HO.out.frame _ _ hxo).2.1) rfl
    have fo2 : wr.cell? ⟨b, 2, none⟩ = some (.int .i32 0) := Base.RowAt.cell (show Base.RowAt wr b 237 #[.slice (some ⟨pp, 0, none⟩) 1 1, .int .i32 0, .int .i32 0, .bool false, .bool false] from (HO.out.frame _ _ hxo).2.1) rfl
    have fo3 : wr.cell? ⟨b, 3, none⟩ = some (.bool false) := Base.RowAt.cell (show Base.RowAt wr b 237 #[.slice (some ⟨pp, 0, none⟩) 1 1, .int .i32 0, .int .i32 0, .bool false, .bool false] from (HO.out.frame _ _ hxo).2.1) rfl
    have fo4 : wr.cell? ⟨b, 4, none⟩ = some (.bool false) := Base.RowAt.cell (show Base.RowAt wr b 237 #[.slice (some ⟨pp, 0, none⟩) 1 1, .int .i32 0, .int .i32 0, .bool false, .bool false] from (HO.out.frame _ _ hxo).2.1) rfl
    have fol : b < wr.heap.size := Base.block_of_cell fo0
    go_wp2_with (first | (with_reducible refine Own.stay (fn := Tryd.f35) ?_) | (first | (go_at_call 34; go_in)))
    try with_reducible refine Own.Stay.mk ?_
    have hO := HO.out
    clear HO fo0 fo1 fo2 fo3 fo4 fol c9_0_0 c9_0_1 lt9_0 y9_0 c9_1_0 c9_1_1 lt9_1 y9_1 c9_4_0 c9_4_1 lt9_4 y9_4 c9_5_0 c9_5_1 c9_5_2 c9_5_3 c9_5_4 c9_5_5 c9_5_6 c9_5_7 c9_5_8 c9_5_9 c9_5_10 c9_5_11 lt9_5 y9_5
    generalize hW : World.alloc _ _ = W4
    have hN : Own w0 W4 [row (wr.heap.size) 243 #[.pointer none, .nilIface, .int .i32 0, .iface 40 (.pointer (some ⟨d, 0, none⟩)), .int .i32 dl, .nilIface, .int .i32 0, .slice none 0 0, .int .i32 0, .int .i32 0, .int .u8 0, .int .u8 0], row (B1_1) 30 #[.nilIface, .int .i32 0], row (B1) 30 #[.iface 229 (.pointer (some ⟨b, 0, none⟩)), .int .i32 loc], row (pb) 206 PC, ((mp, .map #[⟨.string ⟨#[95, 95, 115, 117, 112, 101, 114, 87, 114, 97, 112, 112, 101, 114]⟩, .agg #[.int .i32 0, .int .u32 0, .int .u32 2], 0⟩, ⟨.string ⟨#[95, 95, 115, 117, 112, 101, 114, 71, 101, 116]⟩, .agg #[.int .i32 0, .int .u32 0, .int .u32 3], 1⟩, ⟨.string ⟨#[95, 95, 112, 114, 105, 118, 97, 116, 101, 87, 114, 97, 112, 112, 101, 114]⟩, .agg #[.int .i32 0, .int .u32 0, .int .u32 4], 2⟩] 3) : Rw), row (cr) 68 #[.int .u32 0, .int .u32 1], row (pp) 243 #[.pointer none, .nilIface, .int .i32 0, .iface 40 (.pointer (some ⟨d, 0, none⟩)), .int .i32 dl, .nilIface, .int .i32 0, .slice none 0 0, .int .i32 0, .int .i32 0, .int .u8 0, .int .u8 0]] X := by
      rw [← hW]
      exact (hO).alloc' _ (wr.heap.size) (by simp)
    clear hW hO
    generalize wr.heap.size = B3 at hN ⊢
    have hO := hN
    clear hN
    have hL := hO.apart
    have hX := hO.apartX
    have HL := Lib.hid hL
    have HX := Lib.hid hX
    clear hL hX
    have hP9 := hO.pick [3, 4, 5] (by decide)
    have T9 := hotd pb PC mp cr r s dl d _ _ _ _ _ _ _ hP9 hD hl hlen (Or.inl hxd)
    refine Calls.mono T9 ?_
    clear hP9 T9
    rintro e uw5 ⟨nd6, nd7, rfl, hQ⟩
    have hN : Own w0 uw5 [row (pb) 206 PC, ((mp, .map #[⟨.string ⟨#[95, 95, 115, 117, 112, 101, 114, 87, 114, 97, 112, 112, 101, 114]⟩, .agg #[.int .i32 0, .int .u32 0, .int .u32 2], 0⟩, ⟨.string ⟨#[95, 95, 115, 117, 112, 101, 114, 71, 101, 116]⟩, .agg #[.int .i32 0, .int .u32 0, .int .u32 3], 1⟩, ⟨.string ⟨#[95, 95, 112, 114, 105, 118, 97, 116, 101, 87, 114, 97, 112, 112, 101, 114]⟩, .agg #[.int .i32 0, .int .u32 0, .int .u32 4], 2⟩] 3) : Rw), row (cr) 68 #[.int .u32 0, .int .u32 1], row (nd7) 44 #[.iface 52 (.pointer (some ⟨nd6, 0, none⟩)), .int .i32 dl, .string ⟨#[95]⟩, .int .i32 dl, .int .u8 0, .bool false, .bool false, .bool false], row (B3) 243 #[.pointer none, .nilIface, .int .i32 0, .iface 40 (.pointer (some ⟨d, 0, none⟩)), .int .i32 dl, .nilIface, .int .i32 0, .slice none 0 0, .int .i32 0, .int .i32 0, .int .u8 0, .int .u8 0], row (B1_1) 30 #[.nilIface, .int .i32 0], row (B1) 30 #[.iface 229 (.pointer (some ⟨b, 0, none⟩)), .int .i32 loc], row (pp) 243 #[.pointer none, .nilIface, .int .i32 0, .iface 40 (.pointer (some ⟨d, 0, none⟩)), .int .i32 dl, .nilIface, .int .i32 0, .slice none 0 0, .int .i32 0, .int .i32 0, .int .u8 0, .int .u8 0]] X := hQ.back HL.out HX.out [0, 1, 2, 6] (by decide) (by decide)
    clear hQ HL HX hO
    have hO := hN
    clear hN
    obtain ⟨c9_2_0, c9_2_1, lt9_2, y9_2, -⟩ := hO.k2 2 rfl
    obtain ⟨c9_3_0, c9_3_1, c9_3_2, c9_3_3, c9_3_4, c9_3_5, c9_3_6, c9_3_7, lt9_3, y9_3, -⟩ := hO.k8 3 rfl
    have c9_4_0 : uw5.cell? ⟨B3, 0, none⟩ = some (.pointer none) := hO.cell 4 rfl (0) rfl
    have c9_4_1 : uw5.cell? ⟨B3, 1, none⟩ = some (.nilIface) := hO.cell 4 rfl (1) rfl
    have c9_4_2 : uw5.cell? ⟨B3, 2, none⟩ = some (.int .i32 0) := hO.cell 4 rfl (2) rfl
    have c9_4_3 : uw5.cell? ⟨B3, 3, none⟩ = some (.iface 40 (.pointer (some ⟨d, 0, none⟩))) := hO.cell 4 rfl (3) rfl
    have c9_4_4 : uw5.cell? ⟨B3, 4, none⟩ = some (.int .i32 dl) := hO.cell 4 rfl (4) rfl
    have c9_4_5 : uw5.cell? ⟨B3, 5, none⟩ = some (.nilIface) := hO.cell 4 rfl (5) rfl
    have c9_4_6 : uw5.cell? ⟨B3, 6, none⟩ = some (.int .i32 0) := hO.cell 4 rfl (6) rfl
    have c9_4_7 : uw5.cell? ⟨B3, 7, none⟩ = some (.slice none 0 0) := hO.cell 4 rfl (7) rfl
    have c9_4_8 : uw5.cell? ⟨B3, 8, none⟩ = some (.int .i32 0) := hO.cell 4 rfl (8) rfl
    have c9_4_9 : uw5.cell? ⟨B3, 9, none⟩ = some (.int .i32 0) := hO.cell 4 rfl (9) rfl
    have c9_4_10 : uw5.cell? ⟨B3, 10, none⟩ = some (.int .u8 0) := hO.cell 4 rfl (10) rfl
    have c9_4_11 : uw5.cell? ⟨B3, 11, none⟩ = some (.int .u8 0) := hO.cell 4 rfl (11) rfl
    have lt9_4 : B3 < uw5.heap.size := hO.lt 4 rfl
    have y9_4 : ∀ o, uw5.frozen? ⟨B3, o, none⟩ = false := hO.free 4 rfl
    obtain ⟨c9_5_0, c9_5_1, lt9_5, y9_5, -⟩ := hO.k2 5 rfl
    obtain ⟨c9_6_0, c9_6_1, lt9_6, y9_6, -⟩ := hO.k2 6 rfl
    have c9_7_0 : uw5.cell? ⟨pp, 0, none⟩ = some (.pointer none) := hO.cell 7 rfl (0) rfl
    have c9_7_1 : uw5.cell? ⟨pp, 1, none⟩ = some (.nilIface) := hO.cell 7 rfl (1) rfl
    have c9_7_2 : uw5.cell? ⟨pp, 2, none⟩ = some (.int .i32 0) := hO.cell 7 rfl (2) rfl
    have c9_7_3 : uw5.cell? ⟨pp, 3, none⟩ = some (.iface 40 (.pointer (some ⟨d, 0, none⟩))) := hO.cell 7 rfl (3) rfl
    have c9_7_4 : uw5.cell? ⟨pp, 4, none⟩ = some (.int .i32 dl) := hO.cell 7 rfl (4) rfl
    have c9_7_5 : uw5.cell? ⟨pp, 5, none⟩ = some (.nilIface) := hO.cell 7 rfl (5) rfl
    have c9_7_6 : uw5.cell? ⟨pp, 6, none⟩ = some (.int .i32 0) := hO.cell 7 rfl (6) rfl
    have c9_7_7 : uw5.cell? ⟨pp, 7, none⟩ = some (.slice none 0 0) := hO.cell 7 rfl (7) rfl
    have c9_7_8 : uw5.cell? ⟨pp, 8, none⟩ = some (.int .i32 0) := hO.cell 7 rfl (8) rfl
    have c9_7_9 : uw5.cell? ⟨pp, 9, none⟩ = some (.int .i32 0) := hO.cell 7 rfl (9) rfl
    have c9_7_10 : uw5.cell? ⟨pp, 10, none⟩ = some (.int .u8 0) := hO.cell 7 rfl (10) rfl
    have c9_7_11 : uw5.cell? ⟨pp, 11, none⟩ = some (.int .u8 0) := hO.cell 7 rfl (11) rfl
    have lt9_7 : pp < uw5.heap.size := hO.lt 7 rfl
    have y9_7 : ∀ o, uw5.frozen? ⟨pp, o, none⟩ = false := hO.free 7 rfl
    have HO := Lib.hid hO
    clear hO
    have fo0 : uw5.cell? ⟨b, 0, none⟩ = some (.slice (some ⟨pp, 0, none⟩) 1 1) := Base.RowAt.cell (show Base.RowAt uw5 b 237 #[.slice (some ⟨pp, 0, none⟩) 1 1, .int .i32 0, .int .i32 0, .bool false, .bool false] from (HO.out.frame _ _ hxo).2.1) rfl
    have fo1 : uw5.cell? ⟨b, 1, none⟩ = some (.int .i32 0) := Base.RowAt.cell (show Base.RowAt uw5 b 237 #[.slice (some ⟨pp, 0, none⟩) 1 1, .int .i32 0, .int .i32 0, .bool false, .bool false] from (HO.out.frame _ _ hxo).2.1) rfl
    have fo2 : uw5.cell? ⟨b, 2, none⟩ = some (.int .i32 0) := Base.RowAt.cell (show Base.RowAt uw5 b 237 #[.slice (some ⟨pp, 0, none⟩) 1 1, .int .i32 0, .int .i32 0, .bool false, .bool false] from (HO.out.frame _ _ hxo).2.1) rfl
    have fo3 : uw5.cell? ⟨b, 3, none⟩ = some (.bool false) := Base.RowAt.cell (show Base.RowAt uw5 b 237 #[.slice (some ⟨pp, 0, none⟩) 1 1, .int .i32 0, .int .i32 0, .bool false, .bool false] from (HO.out.frame _ _ hxo).2.1) rfl
    have fo4 : uw5.cell? ⟨b, 4, none⟩ = some (.bool false) := Base.RowAt.cell (show Base.RowAt uw5 b 237 #[.slice (some ⟨pp, 0, none⟩) 1 1, .int .i32 0, .int .i32 0, .bool false, .bool false] from (HO.out.frame _ _ hxo).2.1) rfl
    have fol : b < uw5.heap.size := Base.block_of_cell fo0
    go_wp2_with (first | (with_reducible refine Own.stay (fn := Tryd.f35) ?_) | (first | (go_at_call 34; go_in)))
    try with_reducible refine Own.Stay.mk ?_
    have hO := HO.out
    clear HO fo0 fo1 fo2 fo3 fo4 fol c9_2_0 c9_2_1 lt9_2 y9_2 c9_3_0 c9_3_1 c9_3_2 c9_3_3 c9_3_4 c9_3_5 c9_3_6 c9_3_7 lt9_3 y9_3 c9_4_0 c9_4_1 c9_4_2 c9_4_3 c9_4_4 c9_4_5 c9_4_6 c9_4_7 c9_4_8 c9_4_9 c9_4_10 c9_4_11 lt9_4 y9_4 c9_5_0 c9_5_1 lt9_5 y9_5 c9_6_0 c9_6_1 lt9_6 y9_6 c9_7_0 c9_7_1 c9_7_2 c9_7_3 c9_7_4 c9_7_5 c9_7_6 c9_7_7 c9_7_8 c9_7_9 c9_7_10 c9_7_11 lt9_7 y9_7
    generalize hW : World.alloc _ _ = W9
    have hN : Own w0 W9 [row (uw5.heap.size) 30 #[.iface 40 (.pointer (some ⟨nd7, 0, none⟩)), .int .i32 dl], row (pb) 206 PC, ((mp, .map #[⟨.string ⟨#[95, 95, 115, 117, 112, 101, 114, 87, 114, 97, 112, 112, 101, 114]⟩, .agg #[.int .i32 0, .int .u32 0, .int .u32 2], 0⟩, ⟨.string ⟨#[95, 95, 115, 117, 112, 101, 114, 71, 101, 116]⟩, .agg #[.int .i32 0, .int .u32 0, .int .u32 3], 1⟩, ⟨.string ⟨#[95, 95, 112, 114, 105, 118, 97, 116, 101, 87, 114, 97, 112, 112, 101, 114]⟩, .agg #[.int .i32 0, .int .u32 0, .int .u32 4], 2⟩] 3) : Rw), row (cr) 68 #[.int .u32 0, .int .u32 1], row (nd7) 44 #[.iface 52 (.pointer (some ⟨nd6, 0, none⟩)), .int .i32 dl, .string ⟨#[95]⟩, .int .i32 dl, .int .u8 0, .bool false, .bool false, .bool false], row (B3) 243 #[.pointer none, .nilIface, .int .i32 0, .iface 40 (.pointer (some ⟨d, 0, none⟩)), .int .i32 dl, .nilIface, .int .i32 0, .slice none 0 0, .int .i32 0, .int .i32 0, .int .u8 0, .int .u8 0], row (B1_1) 30 #[.nilIface, .int .i32 0], row (B1) 30 #[.iface 229 (.pointer (some ⟨b, 0, none⟩)), .int .i32 loc], row (pp) 243 #[.pointer none, .nilIface, .int .i32 0, .iface 40 (.pointer (some ⟨d, 0, none⟩)), .int .i32 dl, .nilIface, .int .i32 0, .slice none 0 0, .int .i32 0, .int .i32 0, .int .u8 0, .int .u8 0]] X := by
      rw [← hW]
      exact (hO).alloc' _ (uw5.heap.size) (by simp)
    clear hW hO
    generalize uw5.heap.size = B8 at hN ⊢
    have hO := hN
    clear hN
    have hL := hO.apart
    have hX := hO.apartX
    have HL := Lib.hid hL
    have HX := Lib.hid hX
    clear hL hX
    have hP9 := hO.pick [0, 8] (by decide)
    generalize hX9_10 : Own.Rest _ _ X = X9_10 at hP9
    replace hP9 : Own w0 W9 [row (B8) 30 #[.iface 40 (.pointer (some ⟨nd7, 0, none⟩)), .int .i32 dl], row (pp) 243 #[.pointer none, .nilIface, .int .i32 0, .iface 40 (.pointer (some ⟨d, 0, none⟩)), .int .i32 dl, .nilIface, .int .i32 0, .slice none 0 0, .int .i32 0, .int .i32 0, .int .u8 0, .int .u8 0]] X9_10 := hP9
    clear hO
    have hO := hP9
    clear hP9
    have hxr11 : X9_10 b (.cells #[.slice (some ⟨pp, 0, none⟩) 1 1, .int .i32 0, .int .i32 0, .bool false, .bool false] 237 (0, 0)) := by rw [← hX9_10]; exact Or.inl hxo
    have st9 := rHob1_st d b pp dl nd7 B8
    let R9 := rHob1R d b pp dl nd7 B8
    refine wp_region_own (e := rHob1E d b pp dl nd7 B8) (anc := rHob1Anc) (G := (fun L9 α u9 => OwnF w0 u9 (act rHob1Cnt 2 L9) (rHob1R d b pp dl nd7 B8 L9 α) X9_10)) (by kernel_rfl) (by kernel_rfl) (by kernel_rfl) (by kernel_rfl) (rHob1_he d b pp dl nd7 B8) ?_ (RunsAll.all ?_) ?_
    · have hp : ∀ i, act rHob1Cnt 2 (fun _ => false) i → i ∈ [999, 1999] := by
        intro i hi
        have h9 : i % 1000 = 999 := by
          by_cases h : i % 1000 = 999
          · exact h
          · exact absurd (act_lt hi h) (by simp)
        unfold act at hi
        rw [if_pos h9] at hi
        simp only [List.mem_cons, List.not_mem_nil, or_false]
        omega
      refine hO.drew.family (fun i hi => ?_) (fun i j hi hj hij => ?_)
      · have := hp i hi
        simp only [List.mem_cons, List.not_mem_nil, or_false] at this
        rcases this with rfl | rfl <;> rfl
      · have h1 := hp i hi
        have h2 := hp j hj
        simp only [List.mem_cons, List.not_mem_nil, or_false] at h1 h2
        omega
    · refine ⟨?_, ?_, ?_, ?_, ?_, ?_, ?_, ?_, ?_, trivial⟩
      · intro L9 α a9 u9 K9 hL hcl hA hG hS h0 h1 hK
        replace hL : L9 0 = false := hL
        have q22 : a9.tmps[22]? = some (.pointer (some ⟨b, 0, none⟩)) := (h0 22 (by kernel_rfl)).trans rfl
        have s22 := Rega.eval_of q22
        go_simp
        exact hK _ α _ (fun _ _ => rfl) rfl (step_same (st9) hL hcl rfl rfl hG)
      · intro L9 α a9 u9 K9 hL hcl hA hG hS h0 h1 hK
        replace hL : L9 1 = false := hL
        have q239 : a9.tmps[239]? = some (.pointer (some ⟨b, 0, none⟩)) := hS 0 239 (by decide) rfl (by show 239 < 250; decide)
        have s239 := Rega.eval_of q239
        go_simp
        exact hK _ α _ (fun _ _ => rfl) rfl (step_same (st9) hL hcl rfl rfl hG)
      · intro L9 α a9 u9 K9 hL hcl hA hG hS h0 h1 hK
        replace hL : L9 2 = false := hL
        have q240 : a9.tmps[240]? = some (.pointer (some ⟨b, 0, none⟩)) := hS 1 240 (by decide) rfl (by show 240 < 250; decide)
        have s240 := Rega.eval_of q240
        go_simp
        exact hK _ α _ (fun _ _ => rfl) rfl (step_same (st9) hL hcl rfl rfl hG)
      · intro L9 α a9 u9 K9 hL hcl hA hG hS h0 h1 hK
        replace hL : L9 3 = false := hL
        have q241 : a9.tmps[241]? = some (.pointer (some ⟨b, 0, none⟩)) := hS 2 241 (by decide) rfl (by show 241 < 250; decide)
        have s241 := Rega.eval_of q241
        have c0 : u9.cell? ⟨b, 0, none⟩ = some (.slice (some ⟨pp, 0, none⟩) 1 1) := Base.RowAt.cell (show Base.RowAt u9 b 237 #[.slice (some ⟨pp, 0, none⟩) 1 1, .int .i32 0, .int .i32 0, .bool false, .bool false] from (hG.frame _ _ hxr11).2.1) rfl
        go_simp
        exact hK _ α _ (fun _ _ => rfl) rfl (step_same (st9) hL hcl rfl rfl hG)
      · intro L9 α a9 u9 K9 hL hcl hA hG hS h0 h1 hK
        replace hL : L9 4 = false := hL
        have q23 : a9.tmps[23]? = some (.int .i64 0) := (h0 23 (by kernel_rfl)).trans rfl
        have s23 := Rega.eval_of q23
        go_simp
        exact hK _ α _ (fun _ _ => rfl) rfl (step_same (st9) hL hcl rfl rfl hG)
      · intro L9 α a9 u9 K9 hL hcl hA hG hS h0 h1 hK
        replace hL : L9 5 = false := hL
        have q25 : a9.tmps[25]? = some (.pointer (some ⟨B8, 0, none⟩)) := (h0 25 (by kernel_rfl)).trans rfl
        have s25 := Rega.eval_of q25
        have e0 : R9 L9 α 999 = row (B8) 30 #[.iface 40 (.pointer (some ⟨nd7, 0, none⟩)), .int .i32 dl] := rfl
        have hr := hG.rowAt 999 (act_base 999 rfl) e0
        have c0 : u9.cell? ⟨B8, 0, none⟩ = some (.iface 40 (.pointer (some ⟨nd7, 0, none⟩))) := hr.cell rfl
        have c1 : u9.cell? ⟨B8, 1, none⟩ = some (.int .i32 dl) := hr.cell rfl
        clear hr e0
        go_simp
        exact hK _ α _ (fun _ _ => rfl) rfl (step_same (st9) hL hcl rfl rfl hG)
      · intro L9 α a9 u9 K9 hL hcl hA hG hS h0 h1 hK
        replace hL : L9 6 = false := hL
        have q242 : a9.tmps[242]? = some (.slice (some ⟨pp, 0, none⟩) 1 1) := hS 3 242 (by decide) rfl (by show 242 < 250; decide)
        have s242 := Rega.eval_of q242
        have q243 : a9.tmps[243]? = some (.int .i64 0) := hS 4 243 (by decide) rfl (by show 243 < 250; decide)
        have s243 := Rega.eval_of q243
        go_simp
        exact hK _ α _ (fun _ _ => rfl) rfl (step_same (st9) hL hcl rfl rfl hG)
      · intro L9 α a9 u9 K9 hL hcl hA hG hS h0 h1 hK
        replace hL : L9 7 = false := hL
        have q245 : a9.tmps[245]? = some (.pointer (some ⟨pp, 0, none⟩)) := hS 6 245 (by decide) rfl (by show 245 < 250; decide)
        have s245 := Rega.eval_of q245
        go_simp
        exact hK _ α _ (fun _ _ => rfl) rfl (step_same (st9) hL hcl rfl rfl hG)
      · intro L9 α a9 u9 K9 hL hcl hA hG hS h0 h1 hK
        replace hL : L9 8 = false := hL
        have q246 : a9.tmps[246]? = some (.pointer (some ⟨pp, 3, none⟩)) := hS 7 246 (by decide) rfl (by show 246 < 250; decide)
        have s246 := Rega.eval_of q246
        have q244 : a9.tmps[244]? = some (.agg #[.iface 40 (.pointer (some ⟨nd7, 0, none⟩)), .int .i32 dl]) := hS 5 244 (by decide) rfl (by show 244 < 250; decide)
        have s244 := Rega.eval_of q244
        have e0 : R9 L9 α 1999 = row (pp) 243 #[.pointer none, .nilIface, .int .i32 0, .iface 40 (.pointer (some ⟨d, 0, none⟩)), .int .i32 dl, .nilIface, .int .i32 0, .slice none 0 0, .int .i32 0, .int .i32 0, .int .u8 0, .int .u8 0] := by
          show rHob1T1999 d b pp dl nd7 B8 L9 α = _
          unfold rHob1T1999
          rw [if_neg (by rw [hL]; decide)]
        have hr := hG.rowAt 1999 (act_base 1999 rfl) e0
        have c0 : u9.cell? ⟨pp, 3, none⟩ = some (.iface 40 (.pointer (some ⟨d, 0, none⟩))) := hr.cell rfl
        have y0 : u9.frozen? ⟨pp, 3, none⟩ = false := hr.free (3)
        have c1 : u9.cell? ⟨pp, 4, none⟩ = some (.int .i32 dl) := hr.cell rfl
        have y1 : u9.frozen? ⟨pp, 4, none⟩ = false := hr.free (4)
        clear hr
        have E0 := Lib.hid e0
        clear e0
        go_simp
        have e1 : R9 (Rega.ran L9 8) α 1999 = row (pp) 243 #[.pointer none, .nilIface, .int .i32 0, .iface 40 (.pointer (some ⟨nd7, 0, none⟩)), .int .i32 dl, .nilIface, .int .i32 0, .slice none 0 0, .int .i32 0, .int .i32 0, .int .u8 0, .int .u8 0] := by
          show rHob1T1999 d b pp dl nd7 B8 (Rega.ran L9 8) α = _
          unfold rHob1T1999
          rw [if_pos (show Rega.ran L9 8 8 = true from rfl)]
        exact hK _ α _ (fun _ _ => rfl) rfl (step_sets (st9) hL hcl rfl 1999 rfl (act_base 1999 rfl) E0.out (3) [.iface 40 (.pointer (some ⟨nd7, 0, none⟩)), .int .i32 dl] (e1.trans rfl) hG)
    clear st9
    intro α u hG
    have e0 : R9 (fun k => decide (k < 9)) α 999 = row (B8) 30 #[.iface 40 (.pointer (some ⟨nd7, 0, none⟩)), .int .i32 dl] := rfl
    have e1 : R9 (fun k => decide (k < 9)) α 1999 = row (pp) 243 #[.pointer none, .nilIface, .int .i32 0, .iface 40 (.pointer (some ⟨nd7, 0, none⟩)), .int .i32 dl, .nilIface, .int .i32 0, .slice none 0 0, .int .i32 0, .int .i32 0, .int .u8 0, .int .u8 0] := by
      show rHob1T1999 d b pp dl nd7 B8 (fun k => decide (k < 9)) α = _
      unfold rHob1T1999
      rw [if_pos (by decide)]
    have hO : Own w0 u [row (B8) 30 #[.iface 40 (.pointer (some ⟨nd7, 0, none⟩)), .int .i32 dl], row (pp) 243 #[.pointer none, .nilIface, .int .i32 0, .iface 40 (.pointer (some ⟨nd7, 0, none⟩)), .int .i32 dl, .nilIface, .int .i32 0, .slice none 0 0, .int .i32 0, .int .i32 0, .int .u8 0, .int .u8 0]] X9_10 := (hG.list [999, 1999] (by decide) (act_all (by decide))).conv (by
      show [R9 (fun k => decide (k < 9)) α 999, R9 (fun k => decide (k < 9)) α 1999] = _
      rw [e0, e1])
    clear hG e0 e1 R9
    generalize hfr : Rega.frameAt _ _ _ _ _ = fr
    have hdf : fr = ⟨#[.pointer (some ⟨pb, 0, none⟩), .agg #[.iface 229 (.pointer (some ⟨b, 0, none⟩)), .int .i32 loc], undef, .pointer (some ⟨B1, 0, none⟩), .pointer (some ⟨B1_1, 0, none⟩), .bool false, .bool false, undef, undef, undef, undef, undef, undef, undef, undef, undef, undef, undef, undef, undef, undef, undef, .pointer (some ⟨b, 0, none⟩), .int .i64 0, .pointer (some ⟨B3, 0, none⟩), .pointer (some ⟨B8, 0, none⟩), .bool true, .pointer (some ⟨B1, 0, none⟩), .iface 229 (.pointer (some ⟨b, 0, none⟩)), .tuple #[.pointer none, .bool false], .bool false, .pointer none, undef, undef, undef, undef, undef, undef, undef, undef, undef, undef, undef, undef, undef, undef, .tuple #[.pointer none, .bool false], .bool false, .pointer none, undef, undef, undef, undef, undef, undef, undef, undef, undef, undef, undef, undef, undef, undef, undef, undef, undef, undef, undef, undef, undef, undef, undef, undef, .tuple #[.pointer none, .bool false], .bool false, .pointer none, undef, undef, undef, undef, undef, undef, undef, undef, undef, undef, undef, undef, undef, undef, undef, undef, undef, undef, undef, undef, undef, undef, undef, undef, undef, undef, undef, undef, undef, undef, undef, undef, undef, undef, undef, undef, undef, undef, undef, undef, undef, undef, undef, undef, undef, undef, undef, undef, undef, undef, undef, undef, undef, undef, undef, undef, undef, undef, undef, undef, undef, undef, undef, undef, undef, undef, undef, undef, undef, undef, undef, undef, undef, undef, undef, undef, undef, undef, undef, undef, undef, undef, undef, undef, undef, undef, undef, undef, undef, undef, undef, undef, undef, undef, undef, undef, undef, undef, undef, undef, undef, undef, undef, undef, undef, undef, undef, undef, undef, undef, .tuple #[.pointer none, .bool false], .bool false, .pointer none, undef, undef, undef, undef, undef, undef, undef, undef, undef, undef, undef, undef, undef, undef, undef, undef, undef, undef, undef, undef, undef, undef, undef, undef, undef, .tuple #[.pointer (some ⟨b, 0, none⟩), .bool true], .bool true, .pointer (some ⟨b, 0, none⟩), .pointer (some ⟨b, 0, none⟩), .pointer (some ⟨b, 0, none⟩), .pointer (some ⟨b, 0, none⟩), .slice (some ⟨pp, 0, none⟩) 1 1, .int .i64 1, .int .i64 0, .bool true, .int .i64 0, .pointer (some ⟨pp, 0, none⟩), .agg #[.pointer none, .nilIface, .int .i32 0, .iface 40 (.pointer (some ⟨d, 0, none⟩)), .int .i32 dl, .nilIface, .int .i32 0, .slice none 0 0, .int .i32 0, .int .i32 0, .int .u8 0, .int .u8 0], .pointer (some ⟨B3, 3, none⟩), .pointer (some ⟨B3, 3, none⟩), .iface 40 (.pointer (some ⟨d, 0, none⟩)), .bool true, .tuple #[.agg #[.iface 40 (.pointer (some ⟨nd7, 0, none⟩)), .int .i32 dl], .bool true], .pointer (some ⟨pb, 0, none⟩), .pointer (some ⟨B3, 3, none⟩), .agg #[.iface 40 (.pointer (some ⟨d, 0, none⟩)), .int .i32 dl], .tuple #[.agg #[.iface 40 (.pointer (some ⟨nd7, 0, none⟩)), .int .i32 dl], .bool true], .agg #[.iface 40 (.pointer (some ⟨nd7, 0, none⟩)), .int .i32 dl], .bool true, .bool true, .pointer (some ⟨b, 0, none⟩), .pointer (some ⟨b, 0, none⟩), .pointer (some ⟨b, 0, none⟩), .slice (some ⟨pp, 0, none⟩) 1 1, .int .i64 0, .agg #[.iface 40 (.pointer (some ⟨nd7, 0, none⟩)), .int .i32 dl], .pointer (some ⟨pp, 0, none⟩), .pointer (some ⟨pp, 3, none⟩), u247, undef, undef], []⟩ := by rw [← hfr]; kernel_rfl
    clear hfr
    subst hdf
    clear α
    clear hxr11
    subst hX9_10
    have hN : Own w0 u [row (B8) 30 #[.iface 40 (.pointer (some ⟨nd7, 0, none⟩)), .int .i32 dl], row (pp) 243 #[.pointer none, .nilIface, .int .i32 0, .iface 40 (.pointer (some ⟨nd7, 0, none⟩)), .int .i32 dl, .nilIface, .int .i32 0, .slice none 0 0, .int .i32 0, .int .i32 0, .int .u8 0, .int .u8 0], row (pb) 206 PC, ((mp, .map #[⟨.string ⟨#[95, 95, 115, 117, 112, 101, 114, 87, 114, 97, 112, 112, 101, 114]⟩, .agg #[.int .i32 0, .int .u32 0, .int .u32 2], 0⟩, ⟨.string ⟨#[95, 95, 115, 117, 112, 101, 114, 71, 101, 116]⟩, .agg #[.int .i32 0, .int .u32 0, .int .u32 3], 1⟩, ⟨.string ⟨#[95, 95, 112, 114, 105, 118, 97, 116, 101, 87, 114, 97, 112, 112, 101, 114]⟩, .agg #[.int .i32 0, .int .u32 0, .int .u32 4], 2⟩] 3) : Rw), row (cr) 68 #[.int .u32 0, .int .u32 1], row (nd7) 44 #[.iface 52 (.pointer (some ⟨nd6, 0, none⟩)), .int .i32 dl, .string ⟨#[95]⟩, .int .i32 dl, .int .u8 0, .bool false, .bool false, .bool false], row (B3) 243 #[.pointer none, .nilIface, .int .i32 0, .iface 40 (.pointer (some ⟨d, 0, none⟩)), .int .i32 dl, .nilIface, .int .i32 0, .slice none 0 0, .int .i32 0, .int .i32 0, .int .u8 0, .int .u8 0], row (B1_1) 30 #[.nilIface, .int .i32 0], row (B1) 30 #[.iface 229 (.pointer (some ⟨b, 0, none⟩)), .int .i32 loc]] X := hO.back HL.out HX.out [1, 2, 3, 4, 5, 6, 7] (by decide) (by decide)
    clear hO HL HX
    have hO := hN
    clear hN
    obtain ⟨c9_0_0, c9_0_1, lt9_0, y9_0, -⟩ := hO.k2 0 rfl
    have c9_1_0 : u.cell? ⟨pp, 0, none⟩ = some (.pointer none) := hO.cell 1 rfl (0) rfl
    have c9_1_1 : u.cell? ⟨pp, 1, none⟩ = some (.nilIface) := hO.cell 1 rfl (1) rfl
    have c9_1_2 : u.cell? ⟨pp, 2, none⟩ = some (.int .i32 0) := hO.cell 1 rfl (2) rfl
    have c9_1_3 : u.cell? ⟨pp, 3, none⟩ = some (.iface 40 (.pointer (some ⟨nd7, 0, none⟩))) := hO.cell 1 rfl (3) rfl
    have c9_1_4 : u.cell? ⟨pp, 4, none⟩ = some (.int .i32 dl) := hO.cell 1 rfl (4) rfl
    have c9_1_5 : u.cell? ⟨pp, 5, none⟩ = some (.nilIface) := hO.cell 1 rfl (5) rfl
    have c9_1_6 : u.cell? ⟨pp, 6, none⟩ = some (.int .i32 0) := hO.cell 1 rfl (6) rfl
    have c9_1_7 : u.cell? ⟨pp, 7, none⟩ = some (.slice none 0 0) := hO.cell 1 rfl (7) rfl
    have c9_1_8 : u.cell? ⟨pp, 8, none⟩ = some (.int .i32 0) := hO.cell 1 rfl (8) rfl
    have c9_1_9 : u.cell? ⟨pp, 9, none⟩ = some (.int .i32 0) := hO.cell 1 rfl (9) rfl
    have c9_1_10 : u.cell? ⟨pp, 10, none⟩ = some (.int .u8 0) := hO.cell 1 rfl (10) rfl
    have c9_1_11 : u.cell? ⟨pp, 11, none⟩ = some (.int .u8 0) := hO.cell 1 rfl (11) rfl
    have lt9_1 : pp < u.heap.size := hO.lt 1 rfl
    have y9_1 : ∀ o, u.frozen? ⟨pp, o, none⟩ = false := hO.free 1 rfl
    obtain ⟨c9_4_0, c9_4_1, lt9_4, y9_4, -⟩ := hO.k2 4 rfl
    obtain ⟨c9_5_0, c9_5_1, c9_5_2, c9_5_3, c9_5_4, c9_5_5, c9_5_6, c9_5_7, lt9_5, y9_5, -⟩ := hO.k8 5 rfl
    have c9_6_0 : u.cell? ⟨B3, 0, none⟩ = some (.pointer none) := hO.cell 6 rfl (0) rfl
    have c9_6_1 : u.cell? ⟨B3, 1, none⟩ = some (.nilIface) := hO.cell 6 rfl (1) rfl
    have c9_6_2 : u.cell? ⟨B3, 2, none⟩ = some (.int .i32 0) := hO.cell 6 rfl (2) rfl
    have c9_6_3 : u.cell? ⟨B3, 3, none⟩ = some (.iface 40 (.pointer (some ⟨d, 0, none⟩))) := hO.cell 6 rfl (3) rfl
    have c9_6_4 : u.cell? ⟨B3, 4, none⟩ = some (.int .i32 dl) := hO.cell 6 rfl (4) rfl
    have c9_6_5 : u.cell? ⟨B3, 5, none⟩ = some (.nilIface) := hO.cell 6 rfl (5) rfl
    have c9_6_6 : u.cell? ⟨B3, 6, none⟩ = some (.int .i32 0) := hO.cell 6 rfl (6) rfl
    have c9_6_7 : u.cell? ⟨B3, 7, none⟩ = some (.slice none 0 0) := hO.cell 6 rfl (7) rfl
    have c9_6_8 : u.cell? ⟨B3, 8, none⟩ = some (.int .i32 0) := hO.cell 6 rfl (8) rfl
    have c9_6_9 : u.cell? ⟨B3, 9, none⟩ = some (.int .i32 0) := hO.cell 6 rfl (9) rfl
    have c9_6_10 : u.cell? ⟨B3, 10, none⟩ = some (.int .u8 0) := hO.cell 6 rfl (10) rfl
    have c9_6_11 : u.cell? ⟨B3, 11, none⟩ = some (.int .u8 0) := hO.cell 6 rfl (11) rfl
    have lt9_6 : B3 < u.heap.size := hO.lt 6 rfl
    have y9_6 : ∀ o, u.frozen? ⟨B3, o, none⟩ = false := hO.free 6 rfl
    obtain ⟨c9_7_0, c9_7_1, lt9_7, y9_7, -⟩ := hO.k2 7 rfl
    obtain ⟨c9_8_0, c9_8_1, lt9_8, y9_8, -⟩ := hO.k2 8 rfl
    have HO := Lib.hid hO
    clear hO
    have fo0 : u.cell? ⟨b, 0, none⟩ = some (.slice (some ⟨pp, 0, none⟩) 1 1) := Base.RowAt.cell (show Base.RowAt u b 237 #[.slice (some ⟨pp, 0, none⟩) 1 1, .int .i32 0, .int .i32 0, .bool false, .bool false] from (HO.out.frame _ _ hxo).2.1) rfl
    have fo1 : u.cell? ⟨b, 1, none⟩ = some (.int .i32 0) := Base.RowAt.cell (show Base.RowAt u b 237 #[.slice (some ⟨pp, 0, none⟩) 1 1, .int .i32 0, .int .i32 0, .bool false, .bool false] from (HO.out.frame _ _ hxo).2.1) rfl
    have fo2 : u.cell? ⟨b, 2, none⟩ = some (.int .i32 0) := Base.RowAt.cell (show Base.RowAt u b 237 #[.slice (some ⟨pp, 0, none⟩) 1 1, .int .i32 0, .int .i32 0, .bool false, .bool false] from (HO.out.frame _ _ hxo).2.1) rfl
    have fo3 : u.cell? ⟨b, 3, none⟩ = some (.bool false) := Base.RowAt.cell (show Base.RowAt u b 237 #[.slice (some ⟨pp, 0, none⟩) 1 1, .int .i32 0, .int .i32 0, .bool false, .bool false] from (HO.out.frame _ _ hxo).2.1) rfl
    have fo4 : u.cell? ⟨b, 4, none⟩ = some (.bool false) := Base.RowAt.cell (show Base.RowAt u b 237 #[.slice (some ⟨pp, 0, none⟩) 1 1, .int .i32 0, .int .i32 0, .bool false, .bool false] from (HO.out.frame _ _ hxo).2.1) rfl
    have fol : b < u.heap.size := Base.block_of_cell fo0
    go_wp2_with (first | (with_reducible refine Own.stay (fn := Tryd.f35) ?_) | (first | (go_at_call 34; go_in)))
    try with_reducible refine Own.Stay.mk ?_
    have hO := HO.out
    clear HO fo0 fo1 fo2 fo3 fo4 fol c9_0_0 c9_0_1 lt9_0 y9_0 c9_1_0 c9_1_1 c9_1_2 c9_1_3 c9_1_4 c9_1_5 c9_1_6 c9_1_7 c9_1_8 c9_1_9 c9_1_10 c9_1_11 lt9_1 y9_1 c9_4_0 c9_4_1 lt9_4 y9_4 c9_5_0 c9_5_1 c9_5_2 c9_5_3 c9_5_4 c9_5_5 c9_5_6 c9_5_7 lt9_5 y9_5 c9_6_0 c9_6_1 c9_6_2 c9_6_3 c9_6_4 c9_6_5 c9_6_6 c9_6_7 c9_6_8 c9_6_9 c9_6_10 c9_6_11 lt9_6 y9_6 c9_7_0 c9_7_1 lt9_7 y9_7 c9_8_0 c9_8_1 lt9_8 y9_8
    go_roundg 1
    case measure => omega
    case rel => exact Or.inr ⟨rfl, rfl, rfl, nd6, nd7, hO.sub [7, 8, 2, 3, 4, 1, 5] (by decide)⟩
  obtain ⟨c9_0_0, c9_0_1, lt9_0, y9_0, -⟩ := hO.k2 0 rfl
  obtain ⟨c9_1_0, c9_1_1, lt9_1, y9_1, -⟩ := hO.k2 1 rfl
  obtain ⟨c9_4_0, c9_4_1, lt9_4, y9_4, -⟩ := hO.k2 4 rfl
  have c9_5_0 : wr.cell? ⟨pp, 0, none⟩ = some (.pointer none) := hO.cell 5 rfl (0) rfl
  have c9_5_1 : wr.cell? ⟨pp, 1, none⟩ = some (.nilIface) := hO.cell 5 rfl (1) rfl
  have c9_5_2 : wr.cell? ⟨pp, 2, none⟩ = some (.int .i32 0) := hO.cell 5 rfl (2) rfl
  have c9_5_3 : wr.cell? ⟨pp, 3, none⟩ = some (.iface 40 (.pointer (some ⟨dd, 0, none⟩))) := hO.cell 5 rfl (3) rfl
  have c9_5_4 : wr.cell? ⟨pp, 4, none⟩ = some (.int .i32 dl) := hO.cell 5 rfl (4) rfl
  have c9_5_5 : wr.cell? ⟨pp, 5, none⟩ = some (.nilIface) := hO.cell 5 rfl (5) rfl
  have c9_5_6 : wr.cell? ⟨pp, 6, none⟩ = some (.int .i32 0) := hO.cell 5 rfl (6) rfl
  have c9_5_7 : wr.cell? ⟨pp, 7, none⟩ = some (.slice none 0 0) := hO.cell 5 rfl (7) rfl
  have c9_5_8 : wr.cell? ⟨pp, 8, none⟩ = some (.int .i32 0) := hO.cell 5 rfl (8) rfl
  have c9_5_9 : wr.cell? ⟨pp, 9, none⟩ = some (.int .i32 0) := hO.cell 5 rfl (9) rfl
  have c9_5_10 : wr.cell? ⟨pp, 10, none⟩ = some (.int .u8 0) := hO.cell 5 rfl (10) rfl
  have c9_5_11 : wr.cell? ⟨pp, 11, none⟩ = some (.int .u8 0) := hO.cell 5 rfl (11) rfl
  have lt9_5 : pp < wr.heap.size := hO.lt 5 rfl
  have y9_5 : ∀ o, wr.frozen? ⟨pp, o, none⟩ = false := hO.free 5 rfl
  obtain ⟨c9_6_0, c9_6_1, c9_6_2, c9_6_3, c9_6_4, c9_6_5, c9_6_6, c9_6_7, lt9_6, y9_6, -⟩ := hO.k8 6 rfl
  have HO := Lib.hid hO
  clear hO
  have fo0 : wr.cell? ⟨b, 0, none⟩ = some (.slice (some ⟨pp, 0, none⟩) 1 1) := Base.RowAt.cell (show Base.RowAt wr b 237 #[.slice (some ⟨pp, 0, none⟩) 1 1, .int .i32 0, .int .i32 0, .bool false, .bool false] from (HO.out.frame _ _ hxo).2.1) rfl
  have fo1 : wr.cell? ⟨b, 1, none⟩ = some (.int .i32 0) := Base.RowAt.cell (show Base.RowAt wr b 237 #[.slice (some ⟨pp, 0, none⟩) 1 1, .int .i32 0, .int .i32 0, .bool false, .bool false] from (HO.out.frame _ _ hxo).2.1) rfl
  have fo2 : wr.cell? ⟨b, 2, none⟩ = some (.int .i32 0) := Base.RowAt.cell (show Base.RowAt wr b 237 #[.slice (some ⟨pp, 0, none⟩) 1 1, .int .i32 0, .int .i32 0, .bool false, .bool false] from (HO.out.frame _ _ hxo).2.1) rfl
  have fo3 : wr.cell? ⟨b, 3, none⟩ = some (.bool false) := Base.RowAt.cell (show Base.RowAt wr b 237 #[.slice (some ⟨pp, 0, none⟩) 1 1, .int .i32 0, .int .i32 0, .bool false, .bool false] from (HO.out.frame _ _ hxo).2.1) rfl
  have fo4 : wr.cell? ⟨b, 4, none⟩ = some (.bool false) := Base.RowAt.cell (show Base.RowAt wr b 237 #[.slice (some ⟨pp, 0, none⟩) 1 1, .int .i32 0, .int .i32 0, .bool false, .bool false] from (HO.out.frame _ _ hxo).2.1) rfl
  have fol : b < wr.heap.size := Base.block_of_cell fo0
  go_wp2_with (first | (with_reducible refine Own.stay (fn := Tryd.f35) ?_) | (first | (go_at_call 34; go_in)))
  try with_reducible refine Own.Stay.mk ?_
  have hO := HO.out
  clear HO fo0 fo1 fo2 fo3 fo4 fol c9_0_0 c9_0_1 lt9_0 y9_0 c9_1_0 c9_1_1 lt9_1 y9_1 c9_4_0 c9_4_1 lt9_4 y9_4 c9_5_0 c9_5_1 c9_5_2 c9_5_3 c9_5_4 c9_5_5 c9_5_6 c9_5_7 c9_5_8 c9_5_9 c9_5_10 c9_5_11 lt9_5 y9_5 c9_6_0 c9_6_1 c9_6_2 c9_6_3 c9_6_4 c9_6_5 c9_6_6 c9_6_7 lt9_6 y9_6
  generalize hW : World.setCell _ _ _ = W13
  have hN : Own w0 W13 [row (B1_1) 30 #[.iface 229 (.pointer (some ⟨b, 0, none⟩)), .int .i32 loc], row (B1) 30 #[.iface 229 (.pointer (some ⟨b, 0, none⟩)), .int .i32 loc], row (pb) 206 PC, ((mp, .map #[⟨.string ⟨#[95, 95, 115, 117, 112, 101, 114, 87, 114, 97, 112, 112, 101, 114]⟩, .agg #[.int .i32 0, .int .u32 0, .int .u32 2], 0⟩, ⟨.string ⟨#[95, 95, 115, 117, 112, 101, 114, 71, 101, 116]⟩, .agg #[.int .i32 0, .int .u32 0, .int .u32 3], 1⟩, ⟨.string ⟨#[95, 95, 112, 114, 105, 118, 97, 116, 101, 87, 114, 97, 112, 112, 101, 114]⟩, .agg #[.int .i32 0, .int .u32 0, .int .u32 4], 2⟩] 3) : Rw), row (cr) 68 #[.int .u32 0, .int .u32 1], row (pp) 243 #[.pointer none, .nilIface, .int .i32 0, .iface 40 (.pointer (some ⟨dd, 0, none⟩)), .int .i32 dl, .nilIface, .int .i32 0, .slice none 0 0, .int .i32 0, .int .i32 0, .int .u8 0, .int .u8 0], row (dd) 44 #[.iface 52 (.pointer (some ⟨ca, 0, none⟩)), .int .i32 dl, .string ⟨#[95]⟩, .int .i32 dl, .int .u8 0, .bool false, .bool false, .bool false]] X := by
    rw [← hW]
    exact ((hO).set 0 rfl 0 _).set 0 rfl 1 _
  clear hW hO
  have hO := hN
  clear hN
  have z9_0_0 : W13.cell? ⟨B1_1, 0, none⟩ = some (.iface 229 (.pointer (some ⟨b, 0, none⟩))) := hO.cell 0 rfl 0 rfl
  have z9_0_1 : W13.cell? ⟨B1_1, 1, none⟩ = some (.int .i32 loc) := hO.cell 0 rfl 1 rfl
  refine bodyPost_ret (v := .tuple #[.agg #[.iface 229 (.pointer (some ⟨b, 0, none⟩)), .int .i32 loc], .bool true]) ?_ rfl ⟨ca, dd, rfl, hO.sub [2, 3, 4, 5, 6] (by decide)⟩
  simp [results, Tryd.results35, go_sem, z9_0_0, z9_0_1]
end Go.Proofs.YtcbdjbjbikiaeaaDoor.Use
