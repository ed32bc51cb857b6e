/- The laws' own helpers. No condition. -/
import Derived.Test.YtkhmjppfogppoaaDoorLoop
import Derived.Test.YtkhmjppfogppoaaDoorLive
import Derived.Test.YtkhmjppfogppoaaDoorApp
import Derived.Test.YtkhmjppfogppoaaDoorOwnK
import Derived.Test.YtkhmjppfogppoaaDoorOwn
import Derived.Test.YtkhmjppfogppoaaDoorDeepCells
import Derived.Test.YtkhmjppfogppoaaDoorRows
import Derived.Test.YtkhmjppfogppoaaDoorUse
namespace Go.Proofs.YtkhmjppfogppoaaDoor.Use
open Go.ChangeShapes Go.WideShapes Go.ChangeAt Go.RowKit Go.Sort Own
set_option linter.unusedVariables false
/-- The units of a string's bytes. -/
def unit (key : ByteArray) (i : Nat) : List Value := [.int .u16 (if h : i < key.size then (key[i].toNat : Int) else 0)]
def units (key : ByteArray) : Array Value := full #[.int .u16 0] (tab (unit key) key.size) 0
theorem unit_len (key : ByteArray) (i : Nat) : (unit key i).length = 1 := rfl
theorem units_at (key : ByteArray) (k : Nat) (h : k < key.size) : (units key)[k]? = some (.int .u16 (key[k].toNat : Int)) := by
  have := full_at (z := #[.int .u16 0]) (c := 0) (tab_at (unit_len key) h (o := 0) rfl)
  rw [Nat.mul_one, Nat.add_zero, dif_pos h] at this
  exact this
theorem infoU16 : (Tryd.prog.info? 51).map (fun i => (i.zero, i.size, i.bytes)) = some (some (.int .u16 0), 1, 2) := by kernel_rfl
theorem makeU16 (n : Nat) (hn : n ≤ 1048576) (w : World) : (Instr.makeSlice 38 (.int .i64 (n : Int)) (.int .i64 (n : Int))).run Tryd.prog w = .ok (.slice (some ⟨w.heap.size, 0, none⟩) n n) (w.alloc (.cells (full #[.int .u16 0] [] n) 51)) := by
  obtain ⟨i, hi, z1, z2, z3⟩ := info_parts infoU16
  exact run_mk_full w 38 51 i (.int .u16 0) 1 2 Tryd.underlying38 hi z1 z2 z3 rfl .i64 .i64 n n (Nat.le_refl _) (by omega) (by omega)

def unitsOPost (key : ByteArray) (w0 : World) (X : Nat → Obj → Prop) (e : Ending) (w' : World) : Prop :=
  ∃ ub : Nat, e = .returned (.slice (some ⟨ub, 0, none⟩) key.size key.size) ∧ Own w0 w' [row (ub) 51 (units key)] X
set_option maxRecDepth 100000 in
set_option maxHeartbeats 1000000 in
theorem unitsO (key : ByteArray) (w0 w : World) (X : Nat → Obj → Prop) (hO : Own w0 w [] X) (hlen : key.size ≤ 65536) :
    Calls Tryd.prog 13 #[.string key] w (unitsOPost key w0 X) := by
  have hmk := makeU16 key.size (by omega)
  go_enter Tryd.func13, Tryd.ntmps13
  go_wp2
  go_loopg [4] key.size (fun gf s4 wx => ∃ k : Nat, s4 = .int .i64 (k : Int) ∧ k + gf = key.size ∧ Own w0 wx [row w.heap.size 51 (full #[.int .u16 0] (tab (unit key) k) gf)] X)
  case atStart => exact ⟨0, rfl, by omega, hO.alloc _⟩
  case round =>
    obtain ⟨k, rfl, hk, hR⟩ := hrel
    have hl := tab_length (unit_len key) k
    rw [Nat.mul_one] at hl
    by_cases hlt : k < key.size
    · obtain ⟨g', rfl⟩ : ∃ g', gk = g' + 1 := ⟨gk - 1, by omega⟩
      have hc := hR.cell 0 rfl _ (full_room (o := 0) rfl)
      rw [Nat.add_zero, hl] at hc
      have hf := hR.free 0 rfl k
      have hlt' : (k : Int) < key.size := by omega
      have H := Lib.hid hR
      clear hR
      go_wp2
      go_roundg g'
      case measure => omega
      case rel =>
        refine ⟨k + 1, by simp, by omega, ?_⟩
        rw [wrap_byte16, tab_succ, unit, dif_pos hlt]
        exact H.out.next1 0 rfl rfl k hl.symm _
    · obtain rfl : gk = 0 := by omega
      obtain rfl : k = key.size := by omega
      go_wp2
      go_returns
      exact ⟨_, rfl, hR⟩

theorem makeSym1 (w : World) : (Instr.makeSlice 28 (.int .i64 1) (.int .i64 1)).run Tryd.prog w = .ok (.slice (some ⟨w.heap.size, 0, none⟩) 1 1) (w.alloc (.cells #[.pointer none, .string ⟨#[]⟩, .int .u32 0, .int .u32 0, .int .u32 0, .int .u32 0, .int .u32 0, .int .u16 0, .int .u8 0, .int .u8 0] 56)) := by
  obtain ⟨i, hi, z1, z2, z3⟩ := info_parts infoSym
  have h := run_make (P := Tryd.prog) w 28 56 i _ Tryd.underlying28 hi z1 .i64 .i64 1 1 (by decide) (Int.le_refl _) (by rw [z3]; decide) (by decide)
  rw [z2] at h
  have e : madeCells (Value.agg symZ).cells (Int.toNat 1 * 10) = #[.pointer none, .string ⟨#[]⟩, .int .u32 0, .int .u32 0, .int .u32 0, .int .u32 0, .int .u32 0, .int .u16 0, .int .u8 0, .int .u8 0] := by kernel_rfl
  rw [e] at h
  exact h
theorem symOne : full symZ (symL [sy ⟨#[70, 111, 111]⟩ 0]) 0 = #[.pointer none, .string ⟨#[70, 111, 111]⟩, .int .u32 4294967295, .int .u32 4294967295, .int .u32 0, .int .u32 0, .int .u32 0, .int .u16 0, .int .u8 27, .int .u8 0] := by
  rw [full_nil]
  rfl

def classSymsPost  (w0 : World) (X : Nat → Obj → Prop) (e : Ending) (w' : World) : Prop :=
  ∃ sb : Nat, e = .returned (.slice (some ⟨sb, 0, none⟩) 1 1) ∧ Own w0 w' [row (sb) 56 (full symZ (symL ([sy ⟨#[70, 111, 111]⟩ 0])) 0)] X
set_option maxRecDepth 100000 in
set_option maxHeartbeats 1000000 in
theorem classSyms  (w0 w : World) (X : Nat → Obj → Prop) (hO : Own w0 w [] X) (hg0 : w0.cell? ⟨0, 0, none⟩ = some (.int .u32 4294967295)) (hg1 : w0.cell? ⟨0, 1, none⟩ = some (.int .u32 4294967295)) :
    Calls Tryd.prog 10 #[] w (classSymsPost  w0 X) := by
  go_enter Tryd.func10, Tryd.ntmps10
  have hms := makeSym1
  go_wp2_with (first | (with_reducible refine Own.stay (fn := Tryd.f10) ?_) | (first | (go_at_call 37; go_in)))
  try with_reducible refine Own.Stay.mk ?_
  generalize hW : World.alloc _ _ = W2
  have hN : Own w0 W2 [row (w.heap.size + 1) 25 #[.int .u32 4294967295, .int .u32 4294967295], row (w.heap.size) 56 #[.pointer none, .string ⟨#[70, 111, 111]⟩, .int .u32 4294967295, .int .u32 4294967295, .int .u32 0, .int .u32 0, .int .u32 0, .int .u16 0, .int .u8 27, .int .u8 0]] X := by
    rw [← hW]
    exact ((hO).alloc' _ (w.heap.size) (by simp)).alloc' _ (w.heap.size + 1) (by simp)
  clear hW hO
  generalize w.heap.size + 1 = B1_1 at hN ⊢
  generalize w.heap.size = B1 at hN ⊢
  have hO := hN
  clear hN
  have hN : Own w0 W2 [row (B1) 56 (full symZ (symL ([sy ⟨#[70, 111, 111]⟩ 0])) 0)] X := (hO.sub [1] (by decide)).conv (by rw [symOne]; rfl)
  clear hO
  have hO := hN
  clear hN
  refine bodyPost_ret (v := .slice (some ⟨B1, 0, none⟩) 1 1) ?_ rfl ⟨B1, rfl, hO.sub [0] (by decide)⟩
  simp [results, Tryd.results10, go_sem]
def strEPost (loc : Int) (ub ln cp : Nat) (w0 : World) (X : Nat → Obj → Prop) (e : Ending) (w' : World) : Prop :=
  ∃ eb : Nat, e = .returned (.agg #[.iface 206 (.pointer (some ⟨eb, 0, none⟩)), .int .i32 loc]) ∧ Own w0 w' [row (eb) 208 #[.slice (some ⟨ub, 0, none⟩) ln cp, .int .i32 0, .bool false, .bool false, .bool false]] X
set_option maxRecDepth 100000 in
set_option maxHeartbeats 1000000 in
theorem strE (loc : Int) (ub ln cp : Nat) (w0 w : World) (X : Nat → Obj → Prop) (hO : Own w0 w [] X)  :
    Calls Tryd.prog 12 #[.int .i32 loc, .slice (some ⟨ub, 0, none⟩) ln cp] w (strEPost loc ub ln cp w0 X) := by
  go_enter Tryd.func12, Tryd.ntmps12
  go_wp2_with (first | (with_reducible refine Own.stay (fn := Tryd.f12) ?_) | fail)
  try with_reducible refine Own.Stay.mk ?_
  generalize hW : World.alloc _ _ = W2
  have hN : Own w0 W2 [row (w.heap.size + 1) 208 #[.slice (some ⟨ub, 0, none⟩) ln cp, .int .i32 0, .bool false, .bool false, .bool false], row (w.heap.size) 35 #[.iface 206 (.pointer (some ⟨w.heap.size + 1, 0, none⟩)), .int .i32 loc]] X := by
    rw [← hW]
    exact ((hO).alloc' _ (w.heap.size) (by simp)).alloc' _ (w.heap.size + 1) (by simp)
  clear hW hO
  generalize w.heap.size + 1 = B1_1 at hN ⊢
  generalize w.heap.size = B1 at hN ⊢
  have hO := hN
  clear hN
  have z9_1_0 : W2.cell? ⟨B1, 0, none⟩ = some (.iface 206 (.pointer (some ⟨B1_1, 0, none⟩))) := hO.cell 1 rfl 0 rfl
  have z9_1_1 : W2.cell? ⟨B1, 1, none⟩ = some (.int .i32 loc) := hO.cell 1 rfl 1 rfl
  refine bodyPost_ret (v := .agg #[.iface 206 (.pointer (some ⟨B1_1, 0, none⟩)), .int .i32 loc]) ?_ rfl ⟨B1_1, rfl, hO.sub [0] (by decide)⟩
  simp [results, Tryd.results12, go_sem, z9_1_0, z9_1_1]
def idEPost (loc rs ri : Int) (w0 : World) (X : Nat → Obj → Prop) (e : Ending) (w' : World) : Prop :=
  ∃ ib : Nat, e = .returned (.agg #[.iface 209 (.pointer (some ⟨ib, 0, none⟩)), .int .i32 loc]) ∧ Own w0 w' [row (ib) 211 #[.int .u32 rs, .int .u32 ri, .bool false, .bool false, .bool false]] X
set_option maxRecDepth 100000 in
set_option maxHeartbeats 1000000 in
theorem idE (loc rs ri : Int) (w0 w : World) (X : Nat → Obj → Prop) (hO : Own w0 w [] X)  :
    Calls Tryd.prog 14 #[.int .i32 loc, .agg #[.int .u32 rs, .int .u32 ri]] w (idEPost loc rs ri w0 X) := by
  go_enter Tryd.func14, Tryd.ntmps14
  go_wp2_with (first | (with_reducible refine Own.stay (fn := Tryd.f14) ?_) | fail)
  try with_reducible refine Own.Stay.mk ?_
  generalize hW : World.alloc _ _ = W2
  have hN : Own w0 W2 [row (w.heap.size + 1 + 1) 211 #[.int .u32 rs, .int .u32 ri, .bool false, .bool false, .bool false], row (w.heap.size + 1) 35 #[.iface 209 (.pointer (some ⟨w.heap.size + 1 + 1, 0, none⟩)), .int .i32 loc], row (w.heap.size) 25 #[.int .u32 rs, .int .u32 ri]] X := by
    rw [← hW]
    exact (((hO).alloc' _ (w.heap.size) (by simp)).alloc' _ (w.heap.size + 1) (by simp)).alloc' _ (w.heap.size + 1 + 1) (by simp)
  clear hW hO
  generalize w.heap.size + 1 + 1 = B1_2 at hN ⊢
  generalize w.heap.size + 1 = B1_1 at hN ⊢
  generalize w.heap.size = B1 at hN ⊢
  have hO := hN
  clear hN
  have z9_1_0 : W2.cell? ⟨B1_1, 0, none⟩ = some (.iface 209 (.pointer (some ⟨B1_2, 0, none⟩))) := hO.cell 1 rfl 0 rfl
  have z9_1_1 : W2.cell? ⟨B1_1, 1, none⟩ = some (.int .i32 loc) := hO.cell 1 rfl 1 rfl
  refine bodyPost_ret (v := .agg #[.iface 209 (.pointer (some ⟨B1_2, 0, none⟩)), .int .i32 loc]) ?_ rfl ⟨B1_2, rfl, hO.sub [0] (by decide)⟩
  simp [results, Tryd.results14, go_sem, z9_1_0, z9_1_1]
def impRefYPost (pb : Nat) (PC : Array Value) (mp : Nat) (es : Array MapEntry) (k : Nat) (nm : ByteArray) (q : Nat) (il rs ri : Int) (w0 : World) (X : Nat → Obj → Prop) (e : Ending) (w' : World) : Prop :=
  e = .returned (.tuple #[.agg #[.int .u32 rs, .int .u32 ri], .bool true]) ∧ Own w0 w' [row (pb) 193 PC, ((mp, .map es k) : Rw)] X
set_option maxRecDepth 100000 in
set_option maxHeartbeats 1000000 in
theorem impRefY (pb : Nat) (PC : Array Value) (mp : Nat) (es : Array MapEntry) (k : Nat) (nm : ByteArray) (q : Nat) (il rs ri : Int) (w0 w : World) (X : Nat → Obj → Prop) (hO : Own w0 w [row (pb) 193 PC, ((mp, .map es k) : Rw)] X) (hk117 : PC[117]? = some (.map (some mp))) (hyes : Instr.findNow .string (.string nm) es.toList 0 = some (some (q, .agg #[.int .i32 il, .int .u32 rs, .int .u32 ri]))) :
    Calls Tryd.prog 15 #[.pointer (some ⟨pb, 0, none⟩), .string nm] w (impRefYPost pb PC mp es k nm q il rs ri w0 X) := by
  go_enter Tryd.func15, Tryd.ntmps15
  have c9_0_117 : w.cell? ⟨pb, 117, none⟩ = some (.map (some mp)) := hO.cell 0 rfl 117 (hk117)
  have lt9_0 : pb < w.heap.size := hO.lt 0 rfl
  have y9_0 : ∀ o, w.frozen? ⟨pb, o, none⟩ = false := hO.free 0 rfl
  have HO := Lib.hid hO
  clear hO
  go_wp2_with (first | (with_reducible refine Own.stay (fn := Tryd.f15) ?_) | (at_lookup; refine wpList_lookup_yes rfl _ _ 150 true rfl 9 200 (by kernel_rfl) (by kernel_rfl) ((HO.out.mapAt 1 rfl).alloc _) rfl _ rfl q (.agg #[.int .i32 il, .int .u32 rs, .int .u32 ri]) hyes ?_))
  try with_reducible refine Own.Stay.mk ?_
  have hO := HO.out
  clear HO c9_0_117 lt9_0 y9_0
  generalize hW : World.alloc _ _ = W2
  have hN : Own w0 W2 [row (w.heap.size + 1) 200 #[.int .i32 il, .int .u32 rs, .int .u32 ri], row (w.heap.size) 25 #[.int .u32 rs, .int .u32 ri], row (pb) 193 PC, ((mp, .map es k) : Rw)] X := by
    rw [← hW]
    exact ((hO).alloc' _ (w.heap.size) (by simp)).alloc' _ (w.heap.size + 1) (by simp)
  clear hW hO
  generalize w.heap.size + 1 = B1_1 at hN ⊢
  generalize w.heap.size = B1 at hN ⊢
  have hO := hN
  clear hN
  have z9_1_0 : W2.cell? ⟨B1, 0, none⟩ = some (.int .u32 rs) := hO.cell 1 rfl 0 rfl
  have z9_1_1 : W2.cell? ⟨B1, 1, none⟩ = some (.int .u32 ri) := hO.cell 1 rfl 1 rfl
  refine bodyPost_ret (v := .tuple #[.agg #[.int .u32 rs, .int .u32 ri], .bool true]) ?_ rfl ⟨rfl, hO.sub [2, 3] (by decide)⟩
  simp [results, Tryd.results15, go_sem, z9_1_0, z9_1_1]
def impCntPost (pb : Nat) (PC : Array Value) (mp : Nat) (es : Array MapEntry) (k m : Nat) (w0 : World) (X : Nat → Obj → Prop) (e : Ending) (w' : World) : Prop :=
  e = .returned (.int .i64 (m : Int)) ∧ Own w0 w' [row (pb) 193 PC, ((mp, .map es k) : Rw)] X
set_option maxRecDepth 100000 in
set_option maxHeartbeats 1000000 in
theorem impCnt (pb : Nat) (PC : Array Value) (mp : Nat) (es : Array MapEntry) (k m : Nat) (w0 w : World) (X : Nat → Obj → Prop) (hO : Own w0 w [row (pb) 193 PC, ((mp, .map es k) : Rw)] X) (hk117 : PC[117]? = some (.map (some mp))) (hsz : es.size = m) :
    Calls Tryd.prog 16 #[.pointer (some ⟨pb, 0, none⟩)] w (impCntPost pb PC mp es k m w0 X) := by
  go_enter Tryd.func16, Tryd.ntmps16
  have c9_0_117 : w.cell? ⟨pb, 117, none⟩ = some (.map (some mp)) := hO.cell 0 rfl 117 (hk117)
  have lt9_0 : pb < w.heap.size := hO.lt 0 rfl
  have y9_0 : ∀ o, w.frozen? ⟨pb, o, none⟩ = false := hO.free 0 rfl
  have HO := Lib.hid hO
  clear hO
  have hmz : w.heap[mp]? = some (.map es k) := HO.out.mapAt 1 rfl
  have hml := fun ty => run_len_map (P := Tryd.prog) w 150 ty mp es k (by kernel_rfl) hmz
  go_wp2_with (first | (with_reducible refine Own.stay (fn := Tryd.f16) ?_) | fail)
  try with_reducible refine Own.Stay.mk ?_
  have hO := HO.out
  clear HO c9_0_117 lt9_0 y9_0
  refine bodyPost_ret (v := .int .i64 (m : Int)) ?_ rfl ⟨rfl, hO.sub [0, 1] (by decide)⟩
  simp [results, Tryd.results16, go_sem]
def identOfPost (ib : Nat) (l rs ri : Int) (w0 : World) (X : Nat → Obj → Prop) (e : Ending) (w' : World) : Prop :=
  e = .returned (.tuple #[.agg #[.int .u32 rs, .int .u32 ri], .bool true]) ∧ Own w0 w' [row (ib) 211 #[.int .u32 rs, .int .u32 ri, .bool false, .bool false, .bool false]] X
set_option maxRecDepth 100000 in
set_option maxHeartbeats 1000000 in
theorem identOf (ib : Nat) (l rs ri : Int) (w0 w : World) (X : Nat → Obj → Prop) (hO : Own w0 w [row (ib) 211 #[.int .u32 rs, .int .u32 ri, .bool false, .bool false, .bool false]] X)  :
    Calls Tryd.prog 26 #[.agg #[.iface 209 (.pointer (some ⟨ib, 0, none⟩)), .int .i32 l]] w (identOfPost ib l rs ri w0 X) := by
  go_enter Tryd.func26, Tryd.ntmps26
  obtain ⟨c9_0_0, c9_0_1, c9_0_2, c9_0_3, c9_0_4, lt9_0, y9_0, -⟩ := hO.k5 0 rfl
  have HO := Lib.hid hO
  clear hO
  go_wp2_with (first | (with_reducible refine Own.stay (fn := Tryd.f26) ?_) | fail)
  try with_reducible refine Own.Stay.mk ?_
  have hO := HO.out
  clear HO c9_0_0 c9_0_1 c9_0_2 c9_0_3 c9_0_4 lt9_0 y9_0
  generalize hW : World.alloc _ _ = W2
  have hN : Own w0 W2 [row (w.heap.size + 1) 25 #[.int .u32 rs, .int .u32 ri], row (w.heap.size) 35 #[.iface 209 (.pointer (some ⟨ib, 0, none⟩)), .int .i32 l], row (ib) 211 #[.int .u32 rs, .int .u32 ri, .bool false, .bool false, .bool false]] X := by
    rw [← hW]
    exact ((hO).alloc' _ (w.heap.size) (by simp)).alloc' _ (w.heap.size + 1) (by simp)
  clear hW hO
  generalize w.heap.size + 1 = B1_1 at hN ⊢
  generalize w.heap.size = B1 at hN ⊢
  have hO := hN
  clear hN
  have z9_0_0 : W2.cell? ⟨B1_1, 0, none⟩ = some (.int .u32 rs) := hO.cell 0 rfl 0 rfl
  have z9_0_1 : W2.cell? ⟨B1_1, 1, none⟩ = some (.int .u32 ri) := hO.cell 0 rfl 1 rfl
  refine bodyPost_ret (v := .tuple #[.agg #[.int .u32 rs, .int .u32 ri], .bool true]) ?_ rfl ⟨rfl, hO.sub [2] (by decide)⟩
  simp [results, Tryd.results26, go_sem, z9_0_0, z9_0_1]
def rcallOf1E (ca : Nat) (tT : Nat) (tb : Nat) (l2 : Int) (sx : Nat) (ln : Nat) (cp : Nat) (l : Int) (B1_1 : Nat) (B1 : Nat) : Nat → Rega.Atoms → Value
  | 0, α => .pointer (some ⟨ca, 0, none⟩)
  | 1, α => .pointer (some ⟨ca, 0, none⟩)
  | 2, α => .pointer (some ⟨ca, 0, none⟩)
  | 3, α => .agg #[.iface tT (.pointer (some ⟨tb, 0, none⟩)), .int .i32 l2]
  | 4, α => .pointer (some ⟨ca, 0, none⟩)
  | 5, α => .pointer (some ⟨ca, 0, none⟩)
  | 6, α => .pointer (some ⟨ca, 2, none⟩)
  | 7, α => .slice (some ⟨sx, 0, none⟩) ln cp
  | 8, α => undef
  | 9, α => .slice (some ⟨sx, 0, none⟩) ln cp
  | 10, α => .bool true
  | _, _ => undef
def rcallOf1Anc : Nat → List Nat
  | 1 => [0]
  | 2 => [0, 1]
  | 3 => [0, 1, 2]
  | 5 => [4]
  | 6 => [4, 5]
  | 7 => [4, 5, 6]
  | 8 => [0, 1, 2, 3]
  | 9 => [0, 1, 2, 3, 4, 5, 6, 7, 8]
  | 10 => [0, 1, 2, 3, 4, 5, 6, 7, 8, 9]
  | _ => []
def rcallOf1Trn : Nat → List Nat
  | 8 => [999]
  | _ => []
def rcallOf1Cnt : List (Nat × Nat) := []
def rcallOf1T999 (ca : Nat) (tT : Nat) (tb : Nat) (l2 : Int) (sx : Nat) (ln : Nat) (cp : Nat) (l : Int) (B1_1 : Nat) (B1 : Nat) (L9 : Nat → Bool) (α : Rega.Atoms) : Rw := if L9 8 = true then row (B1_1) 35 #[.iface tT (.pointer (some ⟨tb, 0, none⟩)), .int .i32 l2] else row (B1_1) 35 #[.nilIface, .int .i32 0]
def rcallOf1R (ca : Nat) (tT : Nat) (tb : Nat) (l2 : Int) (sx : Nat) (ln : Nat) (cp : Nat) (l : Int) (B1_1 : Nat) (B1 : Nat) (L9 : Nat → Bool) (α : Rega.Atoms) (ix9 : Nat) : Rw := if ix9 = 999 then rcallOf1T999 ca tT tb l2 sx ln cp l B1_1 B1 L9 α else if ix9 = 1999 then row (B1) 35 #[.iface 65 (.pointer (some ⟨ca, 0, none⟩)), .int .i32 l] else if ix9 = 2999 then row (ca) 71 #[.iface tT (.pointer (some ⟨tb, 0, none⟩)), .int .i32 l2, .slice (some ⟨sx, 0, none⟩) ln cp, .int .i32 0, .int .u8 0, .int .u8 0, .bool false, .bool false] else (0, .map #[] 0)
theorem rcallOf1_he (ca : Nat) (tT : Nat) (tb : Nat) (l2 : Int) (sx : Nat) (ln : Nat) (cp : Nat) (l : Int) (B1_1 : Nat) (B1 : Nat) : ∀ kk α α', (∀ j, (j % 1000 = kk ∨ j % 1000 ∈ rcallOf1Anc kk) → α j = α' j) → rcallOf1E ca tT tb l2 sx ln cp l B1_1 B1 kk α = rcallOf1E ca tT tb l2 sx ln cp l B1_1 B1 kk α' := by
  intro kk α α' h
  match kk with
  | 0 => rfl
  | 1 => rfl
  | 2 => rfl
  | 3 => rfl
  | 4 => rfl
  | 5 => rfl
  | 6 => rfl
  | 7 => rfl
  | 8 => rfl
  | 9 => rfl
  | 10 => rfl
  | n + 11 => rfl
theorem rcallOf1_st (ca : Nat) (tT : Nat) (tb : Nat) (l2 : Int) (sx : Nat) (ln : Nat) (cp : Nat) (l : Int) (B1_1 : Nat) (B1 : Nat) : Stable rcallOf1Cnt 3 rcallOf1Anc rcallOf1Trn (rcallOf1R ca tT tb l2 sx ln cp l B1_1 B1) := by
  intro k9 L9 α α' ix9 hk hcl hα hact ht
  have hp := act_places hact
  replace hp : ix9 ∈ [999, 1999, 2999] := hp
  simp only [List.mem_cons, List.not_mem_nil, or_false] at hp
  rcases hp with rfl | rfl | rfl
  · show rcallOf1T999 ca tT tb l2 sx ln cp l B1_1 B1 (Rega.ran L9 k9) α' = rcallOf1T999 ca tT tb l2 sx ln cp l B1_1 B1 L9 α
    unfold rcallOf1T999
    have n8 : 8 ≠ k9 := fun e => ht (by rw [← e]; decide)
    rw [ran_ne n8]
  · rfl
  · rfl
def callOfPost (ca tT tb : Nat) (l2 : Int) (sx ln cp : Nat) (l : Int) (w0 : World) (X : Nat → Obj → Prop) (e : Ending) (w' : World) : Prop :=
  e = .returned (.tuple #[.agg #[.iface tT (.pointer (some ⟨tb, 0, none⟩)), .int .i32 l2], .slice (some ⟨sx, 0, none⟩) ln cp, .bool true]) ∧ Own w0 w' [row (ca) 71 #[.iface tT (.pointer (some ⟨tb, 0, none⟩)), .int .i32 l2, .slice (some ⟨sx, 0, none⟩) ln cp, .int .i32 0, .int .u8 0, .int .u8 0, .bool false, .bool false]] X
set_option maxRecDepth 100000 in
set_option maxHeartbeats 1000000 in
theorem callOf (ca tT tb : Nat) (l2 : Int) (sx ln cp : Nat) (l : Int) (w0 w : World) (X : Nat → Obj → Prop) (hO : Own w0 w [row (ca) 71 #[.iface tT (.pointer (some ⟨tb, 0, none⟩)), .int .i32 l2, .slice (some ⟨sx, 0, none⟩) ln cp, .int .i32 0, .int .u8 0, .int .u8 0, .bool false, .bool false]] X)  :
    Calls Tryd.prog 39 #[.agg #[.iface 65 (.pointer (some ⟨ca, 0, none⟩)), .int .i32 l]] w (callOfPost ca tT tb l2 sx ln cp l w0 X) := by
  go_enter Tryd.func39, Tryd.ntmps39
  obtain ⟨c9_0_0, c9_0_1, c9_0_2, c9_0_3, c9_0_4, c9_0_5, c9_0_6, c9_0_7, lt9_0, y9_0, -⟩ := hO.k8 0 rfl
  have HO := Lib.hid hO
  clear hO
  go_wp2_with (first | (with_reducible refine Own.stay (fn := Tryd.f39) ?_) | fail)
  try with_reducible refine Own.Stay.mk ?_
  have hO := HO.out
  clear HO c9_0_0 c9_0_1 c9_0_2 c9_0_3 c9_0_4 c9_0_5 c9_0_6 c9_0_7 lt9_0 y9_0
  generalize hW : World.alloc _ _ = W2
  have hN : Own w0 W2 [row (w.heap.size + 1) 35 #[.nilIface, .int .i32 0], row (w.heap.size) 35 #[.iface 65 (.pointer (some ⟨ca, 0, none⟩)), .int .i32 l], row (ca) 71 #[.iface tT (.pointer (some ⟨tb, 0, none⟩)), .int .i32 l2, .slice (some ⟨sx, 0, none⟩) ln cp, .int .i32 0, .int .u8 0, .int .u8 0, .bool false, .bool false]] X := by
    rw [← hW]
    exact ((hO).alloc' _ (w.heap.size) (by simp)).alloc' _ (w.heap.size + 1) (by simp)
  clear hW hO
  generalize w.heap.size + 1 = B1_1 at hN ⊢
  generalize w.heap.size = B1 at hN ⊢
  have hO := hN
  clear hN
  have st9 := rcallOf1_st ca tT tb l2 sx ln cp l B1_1 B1
  refine wp_region_own (e := rcallOf1E ca tT tb l2 sx ln cp l B1_1 B1) (anc := rcallOf1Anc) (G := (fun L9 α u9 => OwnF w0 u9 (act rcallOf1Cnt 3 L9) (rcallOf1R ca tT tb l2 sx ln cp l B1_1 B1 L9 α) X)) (by kernel_rfl) (by kernel_rfl) (by kernel_rfl) (by kernel_rfl) (rcallOf1_he ca tT tb l2 sx ln cp l B1_1 B1) ?_ (RunsAll.all ?_) ?_
  · have hp : ∀ i, act rcallOf1Cnt 3 (fun _ => false) i → i ∈ [999, 1999, 2999] := by
      intro i hi
      have h9 : i % 1000 = 999 := by
        by_cases h : i % 1000 = 999
        · exact h
        · exact absurd (act_lt hi h) (by simp)
      unfold act at hi
      rw [if_pos h9] at hi
      simp only [List.mem_cons, List.not_mem_nil, or_false]
      omega
    refine hO.drew.family (fun i hi => ?_) (fun i j hi hj hij => ?_)
    · have := hp i hi
      simp only [List.mem_cons, List.not_mem_nil, or_false] at this
      rcases this with rfl | rfl | rfl <;> rfl
    · have h1 := hp i hi
      have h2 := hp j hj
      simp only [List.mem_cons, List.not_mem_nil, or_false] at h1 h2
      omega
  · refine ⟨?_, ?_, ?_, ?_, ?_, ?_, ?_, ?_, ?_, ?_, ?_, trivial⟩
    · intro L9 α a9 u9 K9 hL hcl hA hG hS h0 hK
      replace hL : L9 0 = false := hL
      have q5 : a9.tmps[5]? = some (.pointer (some ⟨ca, 0, none⟩)) := (h0 5 (by kernel_rfl)).trans rfl
      have s5 := Rega.eval_of q5
      go_simp
      exact hK _ α _ (fun _ _ => rfl) rfl (step_same (st9) hL hcl rfl rfl hG)
    · intro L9 α a9 u9 K9 hL hcl hA hG hS h0 hK
      replace hL : L9 1 = false := hL
      have q16 : a9.tmps[16]? = some (.pointer (some ⟨ca, 0, none⟩)) := hS 0 16 (by decide) rfl (by show 16 < 24; decide)
      have s16 := Rega.eval_of q16
      go_simp
      exact hK _ α _ (fun _ _ => rfl) rfl (step_same (st9) hL hcl rfl rfl hG)
    · intro L9 α a9 u9 K9 hL hcl hA hG hS h0 hK
      replace hL : L9 2 = false := hL
      have q17 : a9.tmps[17]? = some (.pointer (some ⟨ca, 0, none⟩)) := hS 1 17 (by decide) rfl (by show 17 < 24; decide)
      have s17 := Rega.eval_of q17
      go_simp
      exact hK _ α _ (fun _ _ => rfl) rfl (step_same (st9) hL hcl rfl rfl hG)
    · intro L9 α a9 u9 K9 hL hcl hA hG hS h0 hK
      replace hL : L9 3 = false := hL
      have q18 : a9.tmps[18]? = some (.pointer (some ⟨ca, 0, none⟩)) := hS 2 18 (by decide) rfl (by show 18 < 24; decide)
      have s18 := Rega.eval_of q18
      have e0 : rcallOf1R ca tT tb l2 sx ln cp l B1_1 B1 L9 α 2999 = row (ca) 71 #[.iface tT (.pointer (some ⟨tb, 0, none⟩)), .int .i32 l2, .slice (some ⟨sx, 0, none⟩) ln cp, .int .i32 0, .int .u8 0, .int .u8 0, .bool false, .bool false] := rfl
      have hr := hG.rowAt 2999 (act_base 2999 rfl) e0
      have c0 : u9.cell? ⟨ca, 0, none⟩ = some (.iface tT (.pointer (some ⟨tb, 0, none⟩))) := hr.cell rfl
      have c1 : u9.cell? ⟨ca, 1, none⟩ = some (.int .i32 l2) := hr.cell rfl
      clear hr e0
      go_simp
      exact hK _ α _ (fun _ _ => rfl) rfl (step_same (st9) hL hcl rfl rfl hG)
    · intro L9 α a9 u9 K9 hL hcl hA hG hS h0 hK
      replace hL : L9 4 = false := hL
      have q5 : a9.tmps[5]? = some (.pointer (some ⟨ca, 0, none⟩)) := (h0 5 (by kernel_rfl)).trans rfl
      have s5 := Rega.eval_of q5
      go_simp
      exact hK _ α _ (fun _ _ => rfl) rfl (step_same (st9) hL hcl rfl rfl hG)
    · intro L9 α a9 u9 K9 hL hcl hA hG hS h0 hK
      replace hL : L9 5 = false := hL
      have q20 : a9.tmps[20]? = some (.pointer (some ⟨ca, 0, none⟩)) := hS 4 20 (by decide) rfl (by show 20 < 24; decide)
      have s20 := Rega.eval_of q20
      go_simp
      exact hK _ α _ (fun _ _ => rfl) rfl (step_same (st9) hL hcl rfl rfl hG)
    · intro L9 α a9 u9 K9 hL hcl hA hG hS h0 hK
      replace hL : L9 6 = false := hL
      have q21 : a9.tmps[21]? = some (.pointer (some ⟨ca, 0, none⟩)) := hS 5 21 (by decide) rfl (by show 21 < 24; decide)
      have s21 := Rega.eval_of q21
      go_simp
      exact hK _ α _ (fun _ _ => rfl) rfl (step_same (st9) hL hcl rfl rfl hG)
    · intro L9 α a9 u9 K9 hL hcl hA hG hS h0 hK
      replace hL : L9 7 = false := hL
      have q22 : a9.tmps[22]? = some (.pointer (some ⟨ca, 2, none⟩)) := hS 6 22 (by decide) rfl (by show 22 < 24; decide)
      have s22 := Rega.eval_of q22
      have e0 : rcallOf1R ca tT tb l2 sx ln cp l B1_1 B1 L9 α 2999 = row (ca) 71 #[.iface tT (.pointer (some ⟨tb, 0, none⟩)), .int .i32 l2, .slice (some ⟨sx, 0, none⟩) ln cp, .int .i32 0, .int .u8 0, .int .u8 0, .bool false, .bool false] := rfl
      have hr := hG.rowAt 2999 (act_base 2999 rfl) e0
      have c0 : u9.cell? ⟨ca, 2, none⟩ = some (.slice (some ⟨sx, 0, none⟩) ln cp) := hr.cell rfl
      clear hr e0
      go_simp
      exact hK _ α _ (fun _ _ => rfl) rfl (step_same (st9) hL hcl rfl rfl hG)
    · intro L9 α a9 u9 K9 hL hcl hA hG hS h0 hK
      replace hL : L9 8 = false := hL
      have q2 : a9.tmps[2]? = some (.pointer (some ⟨B1_1, 0, none⟩)) := (h0 2 (by kernel_rfl)).trans rfl
      have s2 := Rega.eval_of q2
      have q19 : a9.tmps[19]? = some (.agg #[.iface tT (.pointer (some ⟨tb, 0, none⟩)), .int .i32 l2]) := hS 3 19 (by decide) rfl (by show 19 < 24; decide)
      have s19 := Rega.eval_of q19
      have e0 : rcallOf1R ca tT tb l2 sx ln cp l B1_1 B1 L9 α 999 = row (B1_1) 35 #[.nilIface, .int .i32 0] := by
        show rcallOf1T999 ca tT tb l2 sx ln cp l B1_1 B1 L9 α = _
        unfold rcallOf1T999
        rw [if_neg (by rw [hL]; decide)]
      have hr := hG.rowAt 999 (act_base 999 rfl) e0
      have c0 : u9.cell? ⟨B1_1, 0, none⟩ = some (.nilIface) := hr.cell rfl
      have y0 : u9.frozen? ⟨B1_1, 0, none⟩ = false := hr.free 0
      have c1 : u9.cell? ⟨B1_1, 1, none⟩ = some (.int .i32 0) := hr.cell rfl
      have y1 : u9.frozen? ⟨B1_1, 1, none⟩ = false := hr.free 1
      clear hr
      have E0 := Lib.hid e0
      clear e0
      go_simp
      have e1 : rcallOf1R ca tT tb l2 sx ln cp l B1_1 B1 (Rega.ran L9 8) α 999 = row (B1_1) 35 #[.iface tT (.pointer (some ⟨tb, 0, none⟩)), .int .i32 l2] := by
        show rcallOf1T999 ca tT tb l2 sx ln cp l B1_1 B1 (Rega.ran L9 8) α = _
        unfold rcallOf1T999
        rw [if_pos (show Rega.ran L9 8 8 = true from rfl)]
      exact hK _ α _ (fun _ _ => rfl) rfl (step_sets (st9) hL hcl rfl 999 rfl (act_base 999 rfl) E0.out 0 [.iface tT (.pointer (some ⟨tb, 0, none⟩)), .int .i32 l2] (e1.trans rfl) hG)
    · intro L9 α a9 u9 K9 hL hcl hA hG hS h0 hK
      replace hL : L9 9 = false := hL
      have q23 : a9.tmps[23]? = some (.slice (some ⟨sx, 0, none⟩) ln cp) := hS 7 23 (by decide) rfl (by show 23 < 24; decide)
      have s23 := Rega.eval_of q23
      go_simp
      exact hK _ α _ (fun _ _ => rfl) rfl (step_same (st9) hL hcl rfl rfl hG)
    · intro L9 α a9 u9 K9 hL hcl hA hG hS h0 hK
      replace hL : L9 10 = false := hL
      go_simp
      exact hK _ α _ (fun _ _ => rfl) rfl (step_same (st9) hL hcl rfl rfl hG)
  clear st9
  intro α u hG
  have e0 : rcallOf1R ca tT tb l2 sx ln cp l B1_1 B1 (fun k => decide (k < 11)) α 999 = row (B1_1) 35 #[.iface tT (.pointer (some ⟨tb, 0, none⟩)), .int .i32 l2] := by
    show rcallOf1T999 ca tT tb l2 sx ln cp l B1_1 B1 (fun k => decide (k < 11)) α = _
    unfold rcallOf1T999
    rw [if_pos (by decide)]
  have e1 : rcallOf1R ca tT tb l2 sx ln cp l B1_1 B1 (fun k => decide (k < 11)) α 1999 = row (B1) 35 #[.iface 65 (.pointer (some ⟨ca, 0, none⟩)), .int .i32 l] := rfl
  have e2 : rcallOf1R ca tT tb l2 sx ln cp l B1_1 B1 (fun k => decide (k < 11)) α 2999 = row (ca) 71 #[.iface tT (.pointer (some ⟨tb, 0, none⟩)), .int .i32 l2, .slice (some ⟨sx, 0, none⟩) ln cp, .int .i32 0, .int .u8 0, .int .u8 0, .bool false, .bool false] := rfl
  have hO : Own w0 u [row (B1_1) 35 #[.iface tT (.pointer (some ⟨tb, 0, none⟩)), .int .i32 l2], row (B1) 35 #[.iface 65 (.pointer (some ⟨ca, 0, none⟩)), .int .i32 l], row (ca) 71 #[.iface tT (.pointer (some ⟨tb, 0, none⟩)), .int .i32 l2, .slice (some ⟨sx, 0, none⟩) ln cp, .int .i32 0, .int .u8 0, .int .u8 0, .bool false, .bool false]] X := (hG.list [999, 1999, 2999] (by decide) (act_all (by decide))).conv (by
    show [rcallOf1R ca tT tb l2 sx ln cp l B1_1 B1 (fun k => decide (k < 11)) α 999, rcallOf1R ca tT tb l2 sx ln cp l B1_1 B1 (fun k => decide (k < 11)) α 1999, rcallOf1R ca tT tb l2 sx ln cp l B1_1 B1 (fun k => decide (k < 11)) α 2999] = _
    rw [e0, e1, e2])
  clear hG e0 e1 e2
  generalize hfr : Rega.frameAt _ _ _ _ _ = fr
  have hdf : fr = ⟨#[.agg #[.iface 65 (.pointer (some ⟨ca, 0, none⟩)), .int .i32 l], .pointer (some ⟨B1, 0, none⟩), .pointer (some ⟨B1_1, 0, none⟩), .slice (some ⟨sx, 0, none⟩) ln cp, .bool true, .pointer (some ⟨ca, 0, none⟩), .bool true, .tuple #[.pointer (some ⟨ca, 0, none⟩), .bool true], .pointer (some ⟨B1, 0, none⟩), .iface 65 (.pointer (some ⟨ca, 0, none⟩)), .tuple #[.pointer (some ⟨ca, 0, none⟩), .bool true], .pointer (some ⟨ca, 0, none⟩), .bool true, .bool true, .bool false, undef, .pointer (some ⟨ca, 0, none⟩), .pointer (some ⟨ca, 0, none⟩), .pointer (some ⟨ca, 0, none⟩), .agg #[.iface tT (.pointer (some ⟨tb, 0, none⟩)), .int .i32 l2], .pointer (some ⟨ca, 0, none⟩), .pointer (some ⟨ca, 0, none⟩), .pointer (some ⟨ca, 2, none⟩), .slice (some ⟨sx, 0, none⟩) ln cp], []⟩ := by rw [← hfr]; kernel_rfl
  clear hfr
  subst hdf
  clear α
  obtain ⟨c9_0_0, c9_0_1, lt9_0, y9_0, -⟩ := hO.k2 0 rfl
  obtain ⟨c9_1_0, c9_1_1, lt9_1, y9_1, -⟩ := hO.k2 1 rfl
  obtain ⟨c9_2_0, c9_2_1, c9_2_2, c9_2_3, c9_2_4, c9_2_5, c9_2_6, c9_2_7, lt9_2, y9_2, -⟩ := hO.k8 2 rfl
  have HO := Lib.hid hO
  clear hO
  go_wp2_with (first | (with_reducible refine Own.stay (fn := Tryd.f39) ?_) | fail)
  try with_reducible refine Own.Stay.mk ?_
  have hO := HO.out
  clear HO c9_0_0 c9_0_1 lt9_0 y9_0 c9_1_0 c9_1_1 lt9_1 y9_1 c9_2_0 c9_2_1 c9_2_2 c9_2_3 c9_2_4 c9_2_5 c9_2_6 c9_2_7 lt9_2 y9_2
  have z9_0_0 : u.cell? ⟨B1_1, 0, none⟩ = some (.iface tT (.pointer (some ⟨tb, 0, none⟩))) := hO.cell 0 rfl 0 rfl
  have z9_0_1 : u.cell? ⟨B1_1, 1, none⟩ = some (.int .i32 l2) := hO.cell 0 rfl 1 rfl
  refine bodyPost_ret (v := .tuple #[.agg #[.iface tT (.pointer (some ⟨tb, 0, none⟩)), .int .i32 l2], .slice (some ⟨sx, 0, none⟩) ln cp, .bool true]) ?_ rfl ⟨rfl, hO.sub [2] (by decide)⟩
  simp [results, Tryd.results39, go_sem, z9_0_0, z9_0_1]
def helperCall4Post (ca b sx : Nat) (l l2 hs hi : Int) (w0 : World) (X : Nat → Obj → Prop) (e : Ending) (w' : World) : Prop :=
  e = .returned (.tuple #[.slice (some ⟨sx, 0, none⟩) 4 4, .bool true]) ∧ Own w0 w' [row (ca) 71 #[.iface 209 (.pointer (some ⟨b, 0, none⟩)), .int .i32 l2, .slice (some ⟨sx, 0, none⟩) 4 4, .int .i32 0, .int .u8 0, .int .u8 0, .bool false, .bool false], row (b) 211 #[.int .u32 hs, .int .u32 hi, .bool false, .bool false, .bool false]] X
set_option maxRecDepth 100000 in
set_option maxHeartbeats 1000000 in
theorem helperCall4 (ca b sx : Nat) (l l2 hs hi : Int) (w0 w : World) (X : Nat → Obj → Prop) (hO : Own w0 w [row (ca) 71 #[.iface 209 (.pointer (some ⟨b, 0, none⟩)), .int .i32 l2, .slice (some ⟨sx, 0, none⟩) 4 4, .int .i32 0, .int .u8 0, .int .u8 0, .bool false, .bool false], row (b) 211 #[.int .u32 hs, .int .u32 hi, .bool false, .bool false, .bool false]] X)  :
    Calls Tryd.prog 17 #[.agg #[.iface 65 (.pointer (some ⟨ca, 0, none⟩)), .int .i32 l], .agg #[.int .u32 hs, .int .u32 hi], .int .i64 4] w (helperCall4Post ca b sx l l2 hs hi w0 X) := by
  go_enter Tryd.func17, Tryd.ntmps17
  obtain ⟨ix9, hix9, hax9, hjx9⟩ := hO.ix
  have ix9_0 : ix9 ca = 0 := hjx9 0 _ _ rfl
  have ix9_1 : ix9 b = 1 := hjx9 1 _ _ rfl
  clear hjx9
  obtain ⟨c9_0_0, c9_0_1, c9_0_2, c9_0_3, c9_0_4, c9_0_5, c9_0_6, c9_0_7, lt9_0, y9_0, -⟩ := hO.k8 0 rfl
  obtain ⟨c9_1_0, c9_1_1, c9_1_2, c9_1_3, c9_1_4, lt9_1, y9_1, -⟩ := hO.k5 1 rfl
  have HO := Lib.hid hO
  clear hO
  go_wp2_with (first | (with_reducible refine Own.stay (fn := Tryd.f17) ?_) | fail)
  try with_reducible refine Own.Stay.mk ?_
  have hO := HO.out
  clear HO hix9 hax9 ix9_0 ix9_1 ix9 c9_0_0 c9_0_1 c9_0_2 c9_0_3 c9_0_4 c9_0_5 c9_0_6 c9_0_7 lt9_0 y9_0 c9_1_0 c9_1_1 c9_1_2 c9_1_3 c9_1_4 lt9_1 y9_1
  generalize hW : World.alloc _ _ = W2
  have hN : Own w0 W2 [row (w.heap.size + 1) 25 #[.int .u32 hs, .int .u32 hi], row (w.heap.size) 35 #[.iface 65 (.pointer (some ⟨ca, 0, none⟩)), .int .i32 l], row (ca) 71 #[.iface 209 (.pointer (some ⟨b, 0, none⟩)), .int .i32 l2, .slice (some ⟨sx, 0, none⟩) 4 4, .int .i32 0, .int .u8 0, .int .u8 0, .bool false, .bool false], row (b) 211 #[.int .u32 hs, .int .u32 hi, .bool false, .bool false, .bool false]] X := by
    rw [← hW]
    exact ((hO).alloc' _ (w.heap.size) (by simp)).alloc' _ (w.heap.size + 1) (by simp)
  clear hW hO
  generalize w.heap.size + 1 = B1_1 at hN ⊢
  generalize w.heap.size = B1 at hN ⊢
  have hO := hN
  clear hN
  have hL := hO.apart
  have hX := hO.apartX
  have HL := Lib.hid hL
  have HX := Lib.hid hX
  clear hL hX
  have hP9 := hO.pick [2] (by decide)
  have T9 := callOf ca 209 b l2 sx 4 4 l _ _ _ hP9 
  refine Calls.mono T9 ?_
  clear hP9 T9
  rintro e u3 ⟨rfl, hQ⟩
  have hN : Own w0 u3 [row (ca) 71 #[.iface 209 (.pointer (some ⟨b, 0, none⟩)), .int .i32 l2, .slice (some ⟨sx, 0, none⟩) 4 4, .int .i32 0, .int .u8 0, .int .u8 0, .bool false, .bool false], row (B1_1) 25 #[.int .u32 hs, .int .u32 hi], row (B1) 35 #[.iface 65 (.pointer (some ⟨ca, 0, none⟩)), .int .i32 l], row (b) 211 #[.int .u32 hs, .int .u32 hi, .bool false, .bool false, .bool false]] X := hQ.back HL.out HX.out [0, 1, 3] (by decide) (by decide)
  clear hQ HL HX hO
  have hO := hN
  clear hN
  obtain ⟨ix9, hix9, hax9, hjx9⟩ := hO.ix
  have ix9_0 : ix9 ca = 0 := hjx9 0 _ _ rfl
  have ix9_1 : ix9 B1_1 = 1 := hjx9 1 _ _ rfl
  have ix9_2 : ix9 B1 = 2 := hjx9 2 _ _ rfl
  have ix9_3 : ix9 b = 3 := hjx9 3 _ _ rfl
  clear hjx9
  obtain ⟨c9_0_0, c9_0_1, c9_0_2, c9_0_3, c9_0_4, c9_0_5, c9_0_6, c9_0_7, lt9_0, y9_0, -⟩ := hO.k8 0 rfl
  obtain ⟨c9_1_0, c9_1_1, lt9_1, y9_1, -⟩ := hO.k2 1 rfl
  obtain ⟨c9_2_0, c9_2_1, lt9_2, y9_2, -⟩ := hO.k2 2 rfl
  obtain ⟨c9_3_0, c9_3_1, c9_3_2, c9_3_3, c9_3_4, lt9_3, y9_3, -⟩ := hO.k5 3 rfl
  have HO := Lib.hid hO
  clear hO
  go_wp2_with (first | (with_reducible refine Own.stay (fn := Tryd.f17) ?_) | fail)
  try with_reducible refine Own.Stay.mk ?_
  have hO := HO.out
  clear HO hix9 hax9 ix9_0 ix9_1 ix9_2 ix9_3 ix9 c9_0_0 c9_0_1 c9_0_2 c9_0_3 c9_0_4 c9_0_5 c9_0_6 c9_0_7 lt9_0 y9_0 c9_1_0 c9_1_1 lt9_1 y9_1 c9_2_0 c9_2_1 lt9_2 y9_2 c9_3_0 c9_3_1 c9_3_2 c9_3_3 c9_3_4 lt9_3 y9_3
  generalize hW : World.alloc _ _ = W5
  have hN : Own w0 W5 [row (u3.heap.size) 35 #[.iface 209 (.pointer (some ⟨b, 0, none⟩)), .int .i32 l2], row (ca) 71 #[.iface 209 (.pointer (some ⟨b, 0, none⟩)), .int .i32 l2, .slice (some ⟨sx, 0, none⟩) 4 4, .int .i32 0, .int .u8 0, .int .u8 0, .bool false, .bool false], row (B1_1) 25 #[.int .u32 hs, .int .u32 hi], row (B1) 35 #[.iface 65 (.pointer (some ⟨ca, 0, none⟩)), .int .i32 l], row (b) 211 #[.int .u32 hs, .int .u32 hi, .bool false, .bool false, .bool false]] X := by
    rw [← hW]
    exact (hO).alloc' _ (u3.heap.size) (by simp)
  clear hW hO
  generalize u3.heap.size = B4 at hN ⊢
  have hO := hN
  clear hN
  have hL := hO.apart
  have hX := hO.apartX
  have HL := Lib.hid hL
  have HX := Lib.hid hX
  clear hL hX
  have hP9 := hO.pick [4] (by decide)
  have T9 := identOf b l2 hs hi _ _ _ hP9 
  refine Calls.mono T9 ?_
  clear hP9 T9
  rintro e u6 ⟨rfl, hQ⟩
  have hN : Own w0 u6 [row (b) 211 #[.int .u32 hs, .int .u32 hi, .bool false, .bool false, .bool false], row (B4) 35 #[.iface 209 (.pointer (some ⟨b, 0, none⟩)), .int .i32 l2], row (ca) 71 #[.iface 209 (.pointer (some ⟨b, 0, none⟩)), .int .i32 l2, .slice (some ⟨sx, 0, none⟩) 4 4, .int .i32 0, .int .u8 0, .int .u8 0, .bool false, .bool false], row (B1_1) 25 #[.int .u32 hs, .int .u32 hi], row (B1) 35 #[.iface 65 (.pointer (some ⟨ca, 0, none⟩)), .int .i32 l]] X := hQ.back HL.out HX.out [0, 1, 2, 3] (by decide) (by decide)
  clear hQ HL HX hO
  have hO := hN
  clear hN
  obtain ⟨ix9, hix9, hax9, hjx9⟩ := hO.ix
  have ix9_0 : ix9 b = 0 := hjx9 0 _ _ rfl
  have ix9_1 : ix9 B4 = 1 := hjx9 1 _ _ rfl
  have ix9_2 : ix9 ca = 2 := hjx9 2 _ _ rfl
  have ix9_3 : ix9 B1_1 = 3 := hjx9 3 _ _ rfl
  have ix9_4 : ix9 B1 = 4 := hjx9 4 _ _ rfl
  clear hjx9
  obtain ⟨c9_0_0, c9_0_1, c9_0_2, c9_0_3, c9_0_4, lt9_0, y9_0, -⟩ := hO.k5 0 rfl
  obtain ⟨c9_1_0, c9_1_1, lt9_1, y9_1, pl9_1⟩ := hO.k2 1 rfl
  obtain ⟨c9_2_0, c9_2_1, c9_2_2, c9_2_3, c9_2_4, c9_2_5, c9_2_6, c9_2_7, lt9_2, y9_2, -⟩ := hO.k8 2 rfl
  obtain ⟨c9_3_0, c9_3_1, lt9_3, y9_3, -⟩ := hO.k2 3 rfl
  obtain ⟨c9_4_0, c9_4_1, lt9_4, y9_4, pl9_4⟩ := hO.k2 4 rfl
  have HO := Lib.hid hO
  clear hO
  go_wp2_with (first | (with_reducible refine Own.stay (fn := Tryd.f17) ?_) | fail)
  try with_reducible refine Own.Stay.mk ?_
  have hO := HO.out
  clear HO hix9 hax9 ix9_0 ix9_1 ix9_2 ix9_3 ix9_4 ix9 c9_0_0 c9_0_1 c9_0_2 c9_0_3 c9_0_4 lt9_0 y9_0 c9_1_0 c9_1_1 lt9_1 y9_1 pl9_1 c9_2_0 c9_2_1 c9_2_2 c9_2_3 c9_2_4 c9_2_5 c9_2_6 c9_2_7 lt9_2 y9_2 c9_3_0 c9_3_1 lt9_3 y9_3 c9_4_0 c9_4_1 lt9_4 y9_4 pl9_4
  generalize hW : World.alloc _ _ = W8
  have hN : Own w0 W8 [row (u6.heap.size) 25 #[.int .u32 hs, .int .u32 hi], row (b) 211 #[.int .u32 hs, .int .u32 hi, .bool false, .bool false, .bool false], row (B4) 35 #[.iface 209 (.pointer (some ⟨b, 0, none⟩)), .int .i32 l2], row (ca) 71 #[.iface 209 (.pointer (some ⟨b, 0, none⟩)), .int .i32 l2, .slice (some ⟨sx, 0, none⟩) 4 4, .int .i32 0, .int .u8 0, .int .u8 0, .bool false, .bool false], row (B1_1) 25 #[.int .u32 hs, .int .u32 hi], row (B1) 35 #[.iface 65 (.pointer (some ⟨ca, 0, none⟩)), .int .i32 l]] X := by
    rw [← hW]
    exact (hO).alloc' _ (u6.heap.size) (by simp)
  clear hW hO
  generalize u6.heap.size = B7 at hN ⊢
  have hO := hN
  clear hN
  refine bodyPost_ret (v := .tuple #[.slice (some ⟨sx, 0, none⟩) 4 4, .bool true]) ?_ rfl ⟨rfl, hO.sub [3, 1] (by decide)⟩
  simp [results, Tryd.results17, go_sem]
def symsOPost (pb : Nat) (PC : Array Value) (sb n k : Nat) (w0 : World) (X : Nat → Obj → Prop) (e : Ending) (w' : World) : Prop :=
  e = .returned (.slice (some ⟨sb, 0, none⟩) n k) ∧ Own w0 w' [row (pb) 193 PC] X
set_option maxRecDepth 100000 in
set_option maxHeartbeats 1000000 in
theorem symsO (pb : Nat) (PC : Array Value) (sb n k : Nat) (w0 w : World) (X : Nat → Obj → Prop) (hO : Own w0 w [row (pb) 193 PC] X) (hk106 : PC[106]? = some (.slice (some ⟨sb, 0, none⟩) n k)) :
    Calls Tryd.prog 18 #[.pointer (some ⟨pb, 0, none⟩)] w (symsOPost pb PC sb n k w0 X) := by
  go_enter Tryd.func18, Tryd.ntmps18
  have c9_0_106 : w.cell? ⟨pb, 106, none⟩ = some (.slice (some ⟨sb, 0, none⟩) n k) := hO.cell 0 rfl 106 (hk106)
  have lt9_0 : pb < w.heap.size := hO.lt 0 rfl
  have y9_0 : ∀ o, w.frozen? ⟨pb, o, none⟩ = false := hO.free 0 rfl
  have HO := Lib.hid hO
  clear hO
  go_wp2_with (first | (with_reducible refine Own.stay (fn := Tryd.f18) ?_) | fail)
  try with_reducible refine Own.Stay.mk ?_
  have hO := HO.out
  clear HO c9_0_106 lt9_0 y9_0
  refine bodyPost_ret (v := .slice (some ⟨sb, 0, none⟩) n k) ?_ rfl ⟨rfl, hO.sub [0] (by decide)⟩
  simp [results, Tryd.results18, go_sem]
def wantUses01Post  (w0 : World) (X : Nat → Obj → Prop) (e : Ending) (w' : World) : Prop :=
  e = .returned (.int .u32 1) ∧ Own w0 w' [] X
set_option maxRecDepth 100000 in
set_option maxHeartbeats 1000000 in
theorem wantUses01  (w0 w : World) (X : Nat → Obj → Prop) (hO : Own w0 w [] X)  :
    Calls Tryd.prog 19 #[.bool false, .int .u32 1] w (wantUses01Post  w0 X) := by
  go_enter Tryd.func19, Tryd.ntmps19
  go_wp2_with (first | (with_reducible refine Own.stay (fn := Tryd.f19) ?_) | fail)
  try with_reducible refine Own.Stay.mk ?_
  refine bodyPost_ret (v := .int .u32 1) ?_ rfl ⟨rfl, hO.sub [] (by decide)⟩
  simp [results, Tryd.results19, go_sem]
def wantUses11Post  (w0 : World) (X : Nat → Obj → Prop) (e : Ending) (w' : World) : Prop :=
  e = .returned (.int .u32 2) ∧ Own w0 w' [] X
set_option maxRecDepth 100000 in
set_option maxHeartbeats 1000000 in
theorem wantUses11  (w0 w : World) (X : Nat → Obj → Prop) (hO : Own w0 w [] X)  :
    Calls Tryd.prog 19 #[.bool true, .int .u32 1] w (wantUses11Post  w0 X) := by
  go_enter Tryd.func19, Tryd.ntmps19
  go_wp2_with (first | (with_reducible refine Own.stay (fn := Tryd.f19) ?_) | fail)
  try with_reducible refine Own.Stay.mk ?_
  refine bodyPost_ret (v := .int .u32 2) ?_ rfl ⟨rfl, hO.sub [] (by decide)⟩
  simp [results, Tryd.results19, go_sem]
def wantUses02Post  (w0 : World) (X : Nat → Obj → Prop) (e : Ending) (w' : World) : Prop :=
  e = .returned (.int .u32 2) ∧ Own w0 w' [] X
set_option maxRecDepth 100000 in
set_option maxHeartbeats 1000000 in
theorem wantUses02  (w0 w : World) (X : Nat → Obj → Prop) (hO : Own w0 w [] X)  :
    Calls Tryd.prog 19 #[.bool false, .int .u32 2] w (wantUses02Post  w0 X) := by
  go_enter Tryd.func19, Tryd.ntmps19
  go_wp2_with (first | (with_reducible refine Own.stay (fn := Tryd.f19) ?_) | fail)
  try with_reducible refine Own.Stay.mk ?_
  refine bodyPost_ret (v := .int .u32 2) ?_ rfl ⟨rfl, hO.sub [] (by decide)⟩
  simp [results, Tryd.results19, go_sem]
def wantUses12Post  (w0 : World) (X : Nat → Obj → Prop) (e : Ending) (w' : World) : Prop :=
  e = .returned (.int .u32 4) ∧ Own w0 w' [] X
set_option maxRecDepth 100000 in
set_option maxHeartbeats 1000000 in
theorem wantUses12  (w0 w : World) (X : Nat → Obj → Prop) (hO : Own w0 w [] X)  :
    Calls Tryd.prog 19 #[.bool true, .int .u32 2] w (wantUses12Post  w0 X) := by
  go_enter Tryd.func19, Tryd.ntmps19
  go_wp2_with (first | (with_reducible refine Own.stay (fn := Tryd.f19) ?_) | fail)
  try with_reducible refine Own.Stay.mk ?_
  refine bodyPost_ret (v := .int .u32 4) ?_ rfl ⟨rfl, hO.sub [] (by decide)⟩
  simp [results, Tryd.results19, go_sem]
def wantUses03Post  (w0 : World) (X : Nat → Obj → Prop) (e : Ending) (w' : World) : Prop :=
  e = .returned (.int .u32 3) ∧ Own w0 w' [] X
set_option maxRecDepth 100000 in
set_option maxHeartbeats 1000000 in
theorem wantUses03  (w0 w : World) (X : Nat → Obj → Prop) (hO : Own w0 w [] X)  :
    Calls Tryd.prog 19 #[.bool false, .int .u32 3] w (wantUses03Post  w0 X) := by
  go_enter Tryd.func19, Tryd.ntmps19
  go_wp2_with (first | (with_reducible refine Own.stay (fn := Tryd.f19) ?_) | fail)
  try with_reducible refine Own.Stay.mk ?_
  refine bodyPost_ret (v := .int .u32 3) ?_ rfl ⟨rfl, hO.sub [] (by decide)⟩
  simp [results, Tryd.results19, go_sem]
def wantUses13Post  (w0 : World) (X : Nat → Obj → Prop) (e : Ending) (w' : World) : Prop :=
  e = .returned (.int .u32 6) ∧ Own w0 w' [] X
set_option maxRecDepth 100000 in
set_option maxHeartbeats 1000000 in
theorem wantUses13  (w0 w : World) (X : Nat → Obj → Prop) (hO : Own w0 w [] X)  :
    Calls Tryd.prog 19 #[.bool true, .int .u32 3] w (wantUses13Post  w0 X) := by
  go_enter Tryd.func19, Tryd.ntmps19
  go_wp2_with (first | (with_reducible refine Own.stay (fn := Tryd.f19) ?_) | fail)
  try with_reducible refine Own.Stay.mk ?_
  refine bodyPost_ret (v := .int .u32 6) ?_ rfl ⟨rfl, hO.sub [] (by decide)⟩
  simp [results, Tryd.results19, go_sem]
end Go.Proofs.YtkhmjppfogppoaaDoor.Use
