/- Row 48's readers that copy lists. No condition. -/
import Derived.Test.YtkmojepgbbdeiaaDoorNewP
import Derived.Test.YtkmojepgbbdeiaaDoorLoop
import Derived.Test.YtkmojepgbbdeiaaDoorMno
import Derived.Test.YtkmojepgbbdeiaaDoorMini
import Derived.Test.YtkmojepgbbdeiaaDoorAppL
import Derived.Test.YtkmojepgbbdeiaaDoorApp
import Derived.Test.YtkmojepgbbdeiaaDoorOwnK
import Derived.Test.YtkmojepgbbdeiaaDoorOwn
import Derived.Test.YtkmojepgbbdeiaaDoorDeepCells
import Derived.Test.YtkmojepgbbdeiaaDoorRows
import Derived.Test.YtkmojepgbbdeiaaDoorLive
namespace Go.Proofs.YtkmojepgbbdeiaaDoor.Use
open Go.ChangeShapes Go.WideShapes Go.ChangeAt Go.RowKit Go.Sort Own
set_option linter.unusedVariables false
theorem tn_size (i : Nat) : 2 ≤ (tn i).size := by
  unfold tn nmB nm
  rw [ByteArray.size_append]
  show 2 ≤ 1 + (List.toArray _).size
  rw [List.size_toArray, List.length_cons]
  omega

theorem tn_at0 (i : Nat) (h : 0 < (tn i).size) : (((tn i)[0]'h).toNat : Int) = 95 := by
  have hd : (tn i).data = #[95] ++ (nm i).toArray := by
    unfold tn nmB
    exact ByteArray.data_append
  have h2 : (tn i)[0]'h = (95 : UInt8) := by
    show (tn i).data[0]'h = 95
    simp [hd]
  rw [h2]
  rfl

theorem makeRefs (n : Nat) (hn : n ≤ 1048576) (w : World) : (Instr.makeSlice 29 (.int .i64 0) (.int .i64 (n : Int))).run Tryd.prog w = .ok (.slice (some ⟨w.heap.size, 0, none⟩) 0 n) (w.alloc (.cells (full refZ [] n) 33)) := by
  obtain ⟨i, hi, z1, z2, z3⟩ := info_parts infoRef
  exact run_mk_full w 29 33 i (.agg refZ) 2 8 Tryd.underlying29 hi z1 z2 z3 rfl .i64 .i64 0 n (by omega) (by omega) (by omega)
theorem makeRefs0 (w : World) : (Instr.makeSlice 29 (.int .i64 0) (.int .i64 0)).run Tryd.prog w = .ok (.slice (some ⟨w.heap.size, 0, none⟩) 0 0) (w.alloc (.cells (full refZ [] 0) 33)) := makeRefs 0 (by decide) w

def topRefs0Post (pb : Nat) (PC : Array Value) (w0 : World) (X : Nat → Obj → Prop) (e : Ending) (w' : World) : Prop :=
  ∃ rb : Nat, e = .returned (.slice (some ⟨rb, 0, none⟩) 0 0) ∧ Own w0 w' [row (pb) 176 PC] X
set_option maxRecDepth 100000 in
set_option maxHeartbeats 1000000 in
theorem topRefs0 (pb : Nat) (PC : Array Value) (w0 w : World) (X : Nat → Obj → Prop) (hO : Own w0 w [row (pb) 176 PC] X) (hk200 : PC[200]? = some (.slice none 0 0)) :
    Calls Tryd.prog 12 #[.pointer (some ⟨pb, 0, none⟩)] w (topRefs0Post pb PC w0 X) := by
  go_enter Tryd.func12, Tryd.ntmps12
  obtain ⟨ix9, hix9, hax9, hjx9⟩ := hO.ix
  have ix9_0 : ix9 pb = 0 := hjx9 0 _ _ rfl
  clear hjx9
  have c9_0_200 : w.cell? ⟨pb, 200, none⟩ = some (.slice none 0 0) := hO.cell 0 rfl (200) (hk200)
  have lt9_0 : pb < w.heap.size := hO.lt 0 rfl
  have y9_0 : ∀ o, w.frozen? ⟨pb, o, none⟩ = false := hO.free 0 rfl
  have HO := Lib.hid hO
  clear hO
  have hmk := makeRefs0
  go_wp2_with (first | (with_reducible refine Own.stay (fn := Tryd.f12) ?_) | fail)
  try with_reducible refine Own.Stay.mk ?_
  have hO := HO.out
  clear HO hix9 hax9 ix9_0 ix9 c9_0_200 lt9_0 y9_0
  generalize hW : World.alloc _ _ = W2
  have hN : Own w0 W2 [row (w.heap.size) 33 (full refZ [] 0), row (pb) 176 PC] X := by
    rw [← hW]
    exact (hO).alloc' _ (w.heap.size) (by simp)
  clear hW hO
  generalize w.heap.size = B1 at hN ⊢
  have hO := hN
  clear hN
  skip
  go_loopg [3, 17] 1 (fun gf s3 s17 wx => s17 = .int .i64 0 ∧ s3 = .slice (some ⟨B1, 0, none⟩) 0 0 ∧ Own w0 wx [row (B1) 33 (full refZ [] 0), row (pb) 176 PC] X)
  case atStart => exact ⟨rfl, rfl, hO⟩
  obtain ⟨rfl, rfl, hO⟩ := hrel
  obtain ⟨ix9, hix9, hax9, hjx9⟩ := hO.ix
  have ix9_0 : ix9 B1 = 0 := hjx9 0 _ _ rfl
  have ix9_1 : ix9 pb = 1 := hjx9 1 _ _ rfl
  clear hjx9
  have c9_1_200 : wr.cell? ⟨pb, 200, none⟩ = some (.slice none 0 0) := hO.cell 1 rfl (200) (hk200)
  have lt9_1 : pb < wr.heap.size := hO.lt 1 rfl
  have y9_1 : ∀ o, wr.frozen? ⟨pb, o, none⟩ = false := hO.free 1 rfl
  have HO := Lib.hid hO
  clear hO
  go_wp2_with (first | (with_reducible refine Own.stay (fn := Tryd.f12) ?_) | fail)
  try with_reducible refine Own.Stay.mk ?_
  have hO := HO.out
  clear HO hix9 hax9 ix9_0 ix9_1 ix9 c9_1_200 lt9_1 y9_1
  refine bodyPost_ret (v := .slice (some ⟨B1, 0, none⟩) 0 0) ?_ rfl ⟨B1, rfl, hO.sub [1] (by decide)⟩
  simp [results, Tryd.results12, go_sem]
def tmpRefs0Post (pb : Nat) (PC : Array Value) (w0 : World) (X : Nat → Obj → Prop) (e : Ending) (w' : World) : Prop :=
  ∃ rb : Nat, e = .returned (.slice (some ⟨rb, 0, none⟩) 0 0) ∧ Own w0 w' [row (pb) 176 PC] X
set_option maxRecDepth 100000 in
set_option maxHeartbeats 1000000 in
theorem tmpRefs0 (pb : Nat) (PC : Array Value) (w0 w : World) (X : Nat → Obj → Prop) (hO : Own w0 w [row (pb) 176 PC] X) (hk199 : PC[199]? = some (.slice none 0 0)) :
    Calls Tryd.prog 15 #[.pointer (some ⟨pb, 0, none⟩)] w (tmpRefs0Post pb PC w0 X) := by
  go_enter Tryd.func15, Tryd.ntmps15
  obtain ⟨ix9, hix9, hax9, hjx9⟩ := hO.ix
  have ix9_0 : ix9 pb = 0 := hjx9 0 _ _ rfl
  clear hjx9
  have c9_0_199 : w.cell? ⟨pb, 199, none⟩ = some (.slice none 0 0) := hO.cell 0 rfl (199) (hk199)
  have lt9_0 : pb < w.heap.size := hO.lt 0 rfl
  have y9_0 : ∀ o, w.frozen? ⟨pb, o, none⟩ = false := hO.free 0 rfl
  have HO := Lib.hid hO
  clear hO
  have hmk := makeRefs0
  go_wp2_with (first | (with_reducible refine Own.stay (fn := Tryd.f15) ?_) | fail)
  try with_reducible refine Own.Stay.mk ?_
  have hO := HO.out
  clear HO hix9 hax9 ix9_0 ix9 c9_0_199 lt9_0 y9_0
  generalize hW : World.alloc _ _ = W2
  have hN : Own w0 W2 [row (w.heap.size) 33 (full refZ [] 0), row (pb) 176 PC] X := by
    rw [← hW]
    exact (hO).alloc' _ (w.heap.size) (by simp)
  clear hW hO
  generalize w.heap.size = B1 at hN ⊢
  have hO := hN
  clear hN
  skip
  go_loopg [3, 17] 1 (fun gf s3 s17 wx => s17 = .int .i64 0 ∧ s3 = .slice (some ⟨B1, 0, none⟩) 0 0 ∧ Own w0 wx [row (B1) 33 (full refZ [] 0), row (pb) 176 PC] X)
  case atStart => exact ⟨rfl, rfl, hO⟩
  obtain ⟨rfl, rfl, hO⟩ := hrel
  obtain ⟨ix9, hix9, hax9, hjx9⟩ := hO.ix
  have ix9_0 : ix9 B1 = 0 := hjx9 0 _ _ rfl
  have ix9_1 : ix9 pb = 1 := hjx9 1 _ _ rfl
  clear hjx9
  have c9_1_199 : wr.cell? ⟨pb, 199, none⟩ = some (.slice none 0 0) := hO.cell 1 rfl (199) (hk199)
  have lt9_1 : pb < wr.heap.size := hO.lt 1 rfl
  have y9_1 : ∀ o, wr.frozen? ⟨pb, o, none⟩ = false := hO.free 1 rfl
  have HO := Lib.hid hO
  clear hO
  go_wp2_with (first | (with_reducible refine Own.stay (fn := Tryd.f15) ?_) | fail)
  try with_reducible refine Own.Stay.mk ?_
  have hO := HO.out
  clear HO hix9 hax9 ix9_0 ix9_1 ix9 c9_1_199 lt9_1 y9_1
  refine bodyPost_ret (v := .slice (some ⟨B1, 0, none⟩) 0 0) ?_ rfl ⟨B1, rfl, hO.sub [1] (by decide)⟩
  simp [results, Tryd.results15, go_sem]
/-- The temporaries' list and the list of their refs. -/
def PairsAt (q l : List Value) (m : Nat) : Prop := ∀ i, i < m → ∃ x y : Int, q[i * 4]? = some .nilIface ∧ q[i * 4 + 1]? = some (.int .i32 0) ∧ q[i * 4 + 2]? = some (.int .u32 x) ∧ q[i * 4 + 3]? = some (.int .u32 y) ∧ l[i * 2]? = some (.int .u32 x) ∧ l[i * 2 + 1]? = some (.int .u32 y)
theorem take_two {l : List Value} {i : Nat} {x y : Value} (hx : l[i * 2]? = some x) (hy : l[i * 2 + 1]? = some y) : l.take (i * 2) ++ [x, y] = l.take ((i + 1) * 2) := by
  rw [show (i + 1) * 2 = i * 2 + 1 + 1 by omega, List.take_add_one, List.take_add_one, hx, hy]
  simp

def rdlRPost (pb : Nat) (PC : Array Value) (j qb cq : Nat) (TQ TL : List Value) (w0 : World) (X : Nat → Obj → Prop) (e : Ending) (w' : World) : Prop :=
  ∃ rb : Nat, ∃ cr : Nat, e = .returned (.slice (some ⟨rb, 0, none⟩) j (j + cr)) ∧ Own w0 w' [row (pb) 176 PC, row (qb) 185 (full trfZ TQ cq), row (rb) 33 (full refZ TL cr)] X
set_option maxRecDepth 100000 in
set_option maxHeartbeats 1000000 in
theorem rdlR (pb : Nat) (PC : Array Value) (j qb cq : Nat) (TQ TL : List Value) (w0 w : World) (X : Nat → Obj → Prop) (hO : Own w0 w [row (pb) 176 PC, row (qb) 185 (full trfZ TQ cq)] X) (hk199 : PC[199]? = some (.slice (some ⟨qb, 0, none⟩) j (j + cq))) (hj5 : j ≤ 100000) (hl : TL.length = j * 2) (hp : PairsAt TQ TL j) :
    Calls Tryd.prog 15 #[.pointer (some ⟨pb, 0, none⟩)] w (rdlRPost pb PC j qb cq TQ TL w0 X) := by
  go_enter Tryd.func15, Tryd.ntmps15
  obtain ⟨ix9, hix9, hax9, hjx9⟩ := hO.ix
  have ix9_0 : ix9 pb = 0 := hjx9 0 _ _ rfl
  have ix9_1 : ix9 qb = 1 := hjx9 1 _ _ rfl
  clear hjx9
  have c9_0_199 : w.cell? ⟨pb, 199, none⟩ = some (.slice (some ⟨qb, 0, none⟩) j (j + cq)) := hO.cell 0 rfl (199) (hk199)
  have lt9_0 : pb < w.heap.size := hO.lt 0 rfl
  have y9_0 : ∀ o, w.frozen? ⟨pb, o, none⟩ = false := hO.free 0 rfl
  have HO := Lib.hid hO
  clear hO
  have hmk := makeRefs j (by omega)
  go_wp2_with (first | (with_reducible refine Own.stay (fn := Tryd.f15) ?_) | (at_builtin; refine Own.appStop ?_) | fail)
  try with_reducible refine Own.Stay.mk ?_
  have hO := HO.out
  clear HO hix9 hax9 ix9_0 ix9_1 ix9 c9_0_199 lt9_0 y9_0
  generalize hW : World.alloc _ _ = W2
  have hN : Own w0 W2 [row (w.heap.size) 33 (full refZ [] j), row (pb) 176 PC, row (qb) 185 (full trfZ TQ cq)] X := by
    rw [← hW]
    exact (hO).alloc' _ (w.heap.size) (by simp)
  clear hW hO
  generalize w.heap.size = B1 at hN ⊢
  have hO := hN
  clear hN
  go_loopg [3, 17] j (fun gf s3 s17 wx => ∃ i rb9 cr9 : Nat, s17 = .int .i64 (i : Int) ∧ i + gf = j ∧ s3 = .slice (some ⟨rb9, 0, none⟩) i (i + cr9) ∧ Own w0 wx [row (pb) 176 PC, row (qb) 185 (full trfZ TQ cq), row (rb9) 33 (full refZ (TL.take (i * 2)) cr9)] X)
  case atStart => exact ⟨0, B1, j, rfl, by omega, by rw [Nat.zero_add], (hO.sub [1, 2, 0] (by decide)).conv (by simp)⟩
  obtain ⟨i, rb9, cr9, rfl, hij, rfl, hO⟩ := hrel
  by_cases hlt : i < j
  · skip
    obtain ⟨gq, rfl⟩ : ∃ gq, gk = gq + 1 := ⟨gk - 1, by omega⟩
    have hlt9 : (i : Int) < (j : Int) := by omega
    have hi8 : (0 : Int) ≤ (i : Int) := by omega
    have htl : (TL.take (i * 2)).length = i * 2 := by rw [List.length_take]; omega
    obtain ⟨x, y, h1, h2, h3, h4, h5, h6⟩ := hp i hlt
    obtain ⟨ix9, hix9, hax9, hjx9⟩ := hO.ix
    have ix9_0 : ix9 pb = 0 := hjx9 0 _ _ rfl
    have ix9_1 : ix9 qb = 1 := hjx9 1 _ _ rfl
    have ix9_2 : ix9 rb9 = 2 := hjx9 2 _ _ rfl
    clear hjx9
    have c9_0_199 : wr.cell? ⟨pb, 199, none⟩ = some (.slice (some ⟨qb, 0, none⟩) j (j + cq)) := hO.cell 0 rfl (199) (hk199)
    have lt9_0 : pb < wr.heap.size := hO.lt 0 rfl
    have y9_0 : ∀ o, wr.frozen? ⟨pb, o, none⟩ = false := hO.free 0 rfl
    have c9_1_i_4 : wr.cell? ⟨qb, i * 4, none⟩ = some (.nilIface) := hO.cell 1 rfl (i * 4) ((full_at h1))
    have c9_1_i_4_1 : wr.cell? ⟨qb, i * 4 + 1, none⟩ = some (.int .i32 0) := hO.cell 1 rfl (i * 4 + 1) ((full_at h2))
    have c9_1_i_4_2 : wr.cell? ⟨qb, i * 4 + 2, none⟩ = some (.int .u32 x) := hO.cell 1 rfl (i * 4 + 2) ((full_at h3))
    have c9_1_i_4_3 : wr.cell? ⟨qb, i * 4 + 3, none⟩ = some (.int .u32 y) := hO.cell 1 rfl (i * 4 + 3) ((full_at h4))
    have lt9_1 : qb < wr.heap.size := hO.lt 1 rfl
    have y9_1 : ∀ o, wr.frozen? ⟨qb, o, none⟩ = false := hO.free 1 rfl
    have HO := Lib.hid hO
    clear hO
    go_wp2_with (first | (with_reducible refine Own.stay (fn := Tryd.f15) ?_) | (at_builtin; refine Own.appStop ?_) | fail)
    try with_reducible refine Own.Stay.mk ?_
    have hO := HO.out
    clear HO hix9 hax9 ix9_0 ix9_1 ix9_2 ix9 c9_0_199 lt9_0 y9_0 c9_1_i_4 c9_1_i_4_1 c9_1_i_4_2 c9_1_i_4_3 lt9_1 y9_1
    generalize hW : World.alloc _ _ = W4
    have hN : Own w0 W4 [row (wr.heap.size + 1) 33 #[.int .u32 x, .int .u32 y], row (wr.heap.size) 185 #[.nilIface, .int .i32 0, .int .u32 x, .int .u32 y], row (pb) 176 PC, row (qb) 185 (full trfZ TQ cq), row (rb9) 33 (full refZ (TL.take (i * 2)) cr9)] X := by
      rw [← hW]
      exact ((hO).alloc' _ (wr.heap.size) (by simp)).alloc' _ (wr.heap.size + 1) (by simp)
    clear hW hO
    generalize wr.heap.size + 1 = B3_1 at hN ⊢
    generalize wr.heap.size = B3 at hN ⊢
    have hO := hN
    clear hN
    refine Own.AppStop.mk ?_
    obtain ⟨i9, hi9, z1, z2, z3⟩ := info_parts infoRef
    have hL := hO.apart
    have hX := hO.apartX
    have HL := Lib.hid hL
    have HX := Lib.hid hX
    clear hL hX
    have hP9 := hO.pick [4, 0] (by decide)
    refine Own.wpList_append_full rfl (.tmp 21) (.tmp 24) 29 rfl 33 i9 (.agg refZ) 2 8 Tryd.underlying29 hi9 z1 z2 z3 rfl (by decide) hP9 rfl rfl (by first | rfl | assumption | (simp; done) | (simp; omega)) (by first | rfl | assumption | omega) rfl (oneAll rfl) (by first | decide | omega | (unfold maxLen; omega)) (by first | decide | omega | (unfold maxLen; omega)) ?_
    intro nd5 nc6 u7 hQ
    clear hP9
    have hN : Own w0 u7 [row (nd5) 33 (full refZ ((TL.take (i * 2)) ++ [.int .u32 x, .int .u32 y]) nc6), row (B3_1) 33 #[.int .u32 x, .int .u32 y], row (B3) 185 #[.nilIface, .int .i32 0, .int .u32 x, .int .u32 y], row (pb) 176 PC, row (qb) 185 (full trfZ TQ cq)] X := hQ.back HL.out HX.out [1, 2, 3] (by decide) (by decide)
    clear hQ HL HX hO
    have hO := hN
    clear hN
    obtain ⟨ix9, hix9, hax9, hjx9⟩ := hO.ix
    have ix9_0 : ix9 nd5 = 0 := hjx9 0 _ _ rfl
    have ix9_1 : ix9 B3_1 = 1 := hjx9 1 _ _ rfl
    have ix9_2 : ix9 B3 = 2 := hjx9 2 _ _ rfl
    have ix9_3 : ix9 pb = 3 := hjx9 3 _ _ rfl
    have ix9_4 : ix9 qb = 4 := hjx9 4 _ _ rfl
    clear hjx9
    have pl9_0 : Base.plainAt u7 (nd5) = true := hO.plain 0 rfl
    obtain ⟨c9_1_0, c9_1_1, lt9_1, y9_1, pl9_1⟩ := hO.k2 1 rfl
    obtain ⟨c9_2_0, c9_2_1, c9_2_2, c9_2_3, lt9_2, y9_2, pl9_2⟩ := hO.k4 2 rfl
    have c9_3_199 : u7.cell? ⟨pb, 199, none⟩ = some (.slice (some ⟨qb, 0, none⟩) j (j + cq)) := hO.cell 3 rfl (199) (hk199)
    have lt9_3 : pb < u7.heap.size := hO.lt 3 rfl
    have y9_3 : ∀ o, u7.frozen? ⟨pb, o, none⟩ = false := hO.free 3 rfl
    have pl9_4 : Base.plainAt u7 (qb) = true := hO.plain 4 rfl
    have c9_4_i_4 : u7.cell? ⟨qb, i * 4, none⟩ = some (.nilIface) := hO.cell 4 rfl (i * 4) ((full_at h1))
    have c9_4_i_4_1 : u7.cell? ⟨qb, i * 4 + 1, none⟩ = some (.int .i32 0) := hO.cell 4 rfl (i * 4 + 1) ((full_at h2))
    have c9_4_i_4_2 : u7.cell? ⟨qb, i * 4 + 2, none⟩ = some (.int .u32 x) := hO.cell 4 rfl (i * 4 + 2) ((full_at h3))
    have c9_4_i_4_3 : u7.cell? ⟨qb, i * 4 + 3, none⟩ = some (.int .u32 y) := hO.cell 4 rfl (i * 4 + 3) ((full_at h4))
    have lt9_4 : qb < u7.heap.size := hO.lt 4 rfl
    have y9_4 : ∀ o, u7.frozen? ⟨qb, o, none⟩ = false := hO.free 4 rfl
    have HO := Lib.hid hO
    clear hO
    go_wp2_with (first | (with_reducible refine Own.stay (fn := Tryd.f15) ?_) | (at_builtin; refine Own.appStop ?_) | fail)
    try with_reducible refine Own.Stay.mk ?_
    have hO := HO.out
    clear HO hix9 hax9 ix9_0 ix9_1 ix9_2 ix9_3 ix9_4 ix9 pl9_0 c9_1_0 c9_1_1 lt9_1 y9_1 pl9_1 c9_2_0 c9_2_1 c9_2_2 c9_2_3 lt9_2 y9_2 pl9_2 c9_3_199 lt9_3 y9_3 pl9_4 c9_4_i_4 c9_4_i_4_1 c9_4_i_4_2 c9_4_i_4_3 lt9_4 y9_4
    go_roundg gq
    case measure => omega
    case rel => exact ⟨i + 1, nd5, nc6, by simp, by omega, rfl, (hO.sub [3, 4, 0] (by decide)).conv (by rw [← take_two h5 h6]; rfl)⟩
  have hlt9 : ¬ (i : Int) < (j : Int) := by omega
  have hte : TL.take (i * 2) = TL := List.take_of_length_le (by omega)
  rw [hte] at hO
  have hN9 := hO
  obtain rfl : i = j := by omega
  have hO := hN9
  clear hN9
  obtain ⟨ix9, hix9, hax9, hjx9⟩ := hO.ix
  have ix9_0 : ix9 pb = 0 := hjx9 0 _ _ rfl
  have ix9_1 : ix9 qb = 1 := hjx9 1 _ _ rfl
  have ix9_2 : ix9 rb9 = 2 := hjx9 2 _ _ rfl
  clear hjx9
  have c9_0_199 : wr.cell? ⟨pb, 199, none⟩ = some (.slice (some ⟨qb, 0, none⟩) i (i + cq)) := hO.cell 0 rfl (199) (hk199)
  have lt9_0 : pb < wr.heap.size := hO.lt 0 rfl
  have y9_0 : ∀ o, wr.frozen? ⟨pb, o, none⟩ = false := hO.free 0 rfl
  have HO := Lib.hid hO
  clear hO
  go_wp2_with (first | (with_reducible refine Own.stay (fn := Tryd.f15) ?_) | (at_builtin; refine Own.appStop ?_) | fail)
  try with_reducible refine Own.Stay.mk ?_
  have hO := HO.out
  clear HO hix9 hax9 ix9_0 ix9_1 ix9_2 ix9 c9_0_199 lt9_0 y9_0
  refine bodyPost_ret (v := .slice (some ⟨rb9, 0, none⟩) i (i + cr9)) ?_ rfl ⟨rb9, cr9, rfl, hO.sub [0, 1, 2] (by decide)⟩
  simp [results, Tryd.results15, go_sem]
def setCntPost (pb : Nat) (PC : Array Value) (t1 t2 : Int) (u1 u2 : Value) (w0 : World) (X : Nat → Obj → Prop) (e : Ending) (w' : World) : Prop :=
  e = .returned (.tuple #[]) ∧ Own w0 w' [row (pb) 176 ((PC.setIfInBounds 287 (.int .i64 t1)).setIfInBounds 288 (.int .i64 t2))] X
set_option maxRecDepth 100000 in
set_option maxHeartbeats 1000000 in
theorem setCnt (pb : Nat) (PC : Array Value) (t1 t2 : Int) (u1 u2 : Value) (w0 w : World) (X : Nat → Obj → Prop) (hO : Own w0 w [row (pb) 176 PC] X) (hk287 : PC[287]? = some (u1)) (hk288 : PC[288]? = some (u2)) :
    Calls Tryd.prog 18 #[.pointer (some ⟨pb, 0, none⟩), .int .i64 t1, .int .i64 t2] w (setCntPost pb PC t1 t2 u1 u2 w0 X) := by
  go_enter Tryd.func18, Tryd.ntmps18
  obtain ⟨ix9, hix9, hax9, hjx9⟩ := hO.ix
  have ix9_0 : ix9 pb = 0 := hjx9 0 _ _ rfl
  clear hjx9
  have c9_0_287 : w.cell? ⟨pb, 287, none⟩ = some (u1) := hO.cell 0 rfl (287) (hk287)
  have c9_0_288 : w.cell? ⟨pb, 288, none⟩ = some (u2) := hO.cell 0 rfl (288) (hk288)
  have lt9_0 : pb < w.heap.size := hO.lt 0 rfl
  have y9_0 : ∀ o, w.frozen? ⟨pb, o, none⟩ = false := hO.free 0 rfl
  have HO := Lib.hid hO
  clear hO
  go_wp2_with (first | (with_reducible refine Own.stay (fn := Tryd.f18) ?_) | fail)
  try with_reducible refine Own.Stay.mk ?_
  have hO := HO.out
  clear HO hix9 hax9 ix9_0 ix9 c9_0_287 c9_0_288 lt9_0 y9_0
  generalize hW : World.setCell _ _ _ = W2
  have hN : Own w0 W2 [row (pb) 176 ((PC.setIfInBounds 287 (.int .i64 t1)).setIfInBounds 288 (.int .i64 t2))] X := by
    rw [← hW]
    exact ((hO).set 0 rfl 287 _).set 0 rfl 288 _
  clear hW hO
  have hO := hN
  clear hN
  refine bodyPost_ret (v := .tuple #[]) ?_ rfl ⟨rfl, hO.sub [0] (by decide)⟩
  simp [results, Tryd.results18, go_sem]
end Go.Proofs.YtkmojepgbbdeiaaDoor.Use
