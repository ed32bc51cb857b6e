/- The calls, looked at one by one. No condition. -/
import Derived.Test.YtdbnnpoffpipjaaLv
import Derived.Test.YtdbnnpoffpipjaaRdr
import Derived.Test.YtdbnnpoffpipjaaFin
import Derived.Test.YtdbnnpoffpipjaaFd
import Derived.Test.YtdbnnpoffpipjaaFn1
import Derived.Test.YtdbnnpoffpipjaaFf1
import Derived.Test.YtdbnnpoffpipjaaJn
import Derived.Test.YtdbnnpoffpipjaaTre
import Derived.Test.YtdbnnpoffpipjaaLoop
import Derived.Test.YtdbnnpoffpipjaaAppL
import Derived.Test.YtdbnnpoffpipjaaApp
import Derived.Test.YtdbnnpoffpipjaaOwnK
import Derived.Test.YtdbnnpoffpipjaaOwn
import Derived.Test.YtdbnnpoffpipjaaDeepCells
import Derived.Test.YtdbnnpoffpipjaaRows
namespace Go.Proofs.Ytdbnnpoffpipjaa.Use
open Go.ChangeShapes Go.WideShapes Go.ChangeAt Go.RowKit Go.Sort Own
set_option linter.unusedVariables false
def rCU22E (D : Dat) (U : Nat → Nat) (n : Nat) (ub : Nat) (kb : Nat) (B1_1 : Nat) (B1 : Nat) (i : Nat) (B5 : Nat) : Nat → Rega.Atoms → Value
  | 0, α => .pointer (some ⟨D.ib i, 0, none⟩)
  | 1, α => .pointer (some ⟨D.ib i, 0, none⟩)
  | 2, α => .pointer (some ⟨D.ib i, 0, none⟩)
  | 3, α => .agg #[.int .u32 D.src, .int .u32 D.inn]
  | 4, α => .agg #[.int .u32 D.src, .int .u32 D.inn]
  | 5, α => .bool false
  | _, _ => undef
def rCU22Anc : Nat → List Nat
  | 1 => [0]
  | 2 => [0, 1]
  | 3 => [0, 1, 2]
  | 5 => [0, 1, 2, 3, 4]
  | _ => []
def rCU22Trn : Nat → List Nat
  | _ => []
def rCU22Cnt : List (Nat × Nat) := []
def rCU22R (D : Dat) (U : Nat → Nat) (n : Nat) (ub : Nat) (kb : Nat) (B1_1 : Nat) (B1 : Nat) (i : Nat) (B5 : Nat) (L9 : Nat → Bool) (α : Rega.Atoms) (ix9 : Nat) : Rw := if ix9 = 999 then row (B5) 27 #[.int .u32 D.src, .int .u32 D.inn] else if ix9 = 1999 then row (B1_1) 27 #[.int .u32 D.src, .int .u32 D.inx] else if ix9 = 2999 then row (B1) 27 #[.int .u32 D.src, .int .u32 D.inn] else if ix9 = 3999 then row (ub) 5 (itR U n) else if ix9 = 4999 then row (kb) 36 (clR D n 0) else (0, .map #[] 0)
theorem rCU22_he (D : Dat) (U : Nat → Nat) (n : Nat) (ub : Nat) (kb : Nat) (B1_1 : Nat) (B1 : Nat) (i : Nat) (B5 : Nat) : ∀ kk α α', (∀ j, (j % 1000 = kk ∨ j % 1000 ∈ rCU22Anc kk) → α j = α' j) → rCU22E D U n ub kb B1_1 B1 i B5 kk α = rCU22E D U n ub kb B1_1 B1 i B5 kk α' := by
  intro kk α α' h
  match kk with
  | 0 => rfl
  | 1 => rfl
  | 2 => rfl
  | 3 => rfl
  | 4 => rfl
  | 5 => rfl
  | n + 6 => rfl
theorem rCU22_st (D : Dat) (U : Nat → Nat) (n : Nat) (ub : Nat) (kb : Nat) (B1_1 : Nat) (B1 : Nat) (i : Nat) (B5 : Nat) : Stable rCU22Cnt 5 rCU22Anc rCU22Trn (rCU22R D U n ub kb B1_1 B1 i B5) := by
  intro k9 L9 α α' ix9 hk hcl hα hact ht
  have hp := act_places hact
  replace hp : ix9 ∈ [999, 1999, 2999, 3999, 4999] := hp
  simp only [List.mem_cons, List.not_mem_nil, or_false] at hp
  rcases hp with rfl | rfl | rfl | rfl | rfl
  · rfl
  · rfl
  · rfl
  · rfl
  · rfl
def rCU32E (D : Dat) (U : Nat → Nat) (n : Nat) (ub : Nat) (kb : Nat) (B1_1 : Nat) (B1 : Nat) (i : Nat) (B8 : Nat) : Nat → Rega.Atoms → Value
  | 0, α => .pointer (some ⟨D.ib i, 0, none⟩)
  | 1, α => .pointer (some ⟨D.ib i, 0, none⟩)
  | 2, α => .pointer (some ⟨D.ib i, 0, none⟩)
  | 3, α => .agg #[.int .u32 D.src, .int .u32 D.inx]
  | 4, α => .agg #[.int .u32 D.src, .int .u32 D.inx]
  | 5, α => .bool false
  | _, _ => undef
def rCU32Anc : Nat → List Nat
  | 1 => [0]
  | 2 => [0, 1]
  | 3 => [0, 1, 2]
  | 5 => [0, 1, 2, 3, 4]
  | _ => []
def rCU32Trn : Nat → List Nat
  | _ => []
def rCU32Cnt : List (Nat × Nat) := []
def rCU32R (D : Dat) (U : Nat → Nat) (n : Nat) (ub : Nat) (kb : Nat) (B1_1 : Nat) (B1 : Nat) (i : Nat) (B8 : Nat) (L9 : Nat → Bool) (α : Rega.Atoms) (ix9 : Nat) : Rw := if ix9 = 999 then row (B8) 27 #[.int .u32 D.src, .int .u32 D.inx] else if ix9 = 1999 then row (B1_1) 27 #[.int .u32 D.src, .int .u32 D.inx] else if ix9 = 2999 then row (B1) 27 #[.int .u32 D.src, .int .u32 D.inn] else if ix9 = 3999 then row (ub) 5 (itR U n) else if ix9 = 4999 then row (kb) 36 (clR D n 0) else (0, .map #[] 0)
theorem rCU32_he (D : Dat) (U : Nat → Nat) (n : Nat) (ub : Nat) (kb : Nat) (B1_1 : Nat) (B1 : Nat) (i : Nat) (B8 : Nat) : ∀ kk α α', (∀ j, (j % 1000 = kk ∨ j % 1000 ∈ rCU32Anc kk) → α j = α' j) → rCU32E D U n ub kb B1_1 B1 i B8 kk α = rCU32E D U n ub kb B1_1 B1 i B8 kk α' := by
  intro kk α α' h
  match kk with
  | 0 => rfl
  | 1 => rfl
  | 2 => rfl
  | 3 => rfl
  | 4 => rfl
  | 5 => rfl
  | n + 6 => rfl
theorem rCU32_st (D : Dat) (U : Nat → Nat) (n : Nat) (ub : Nat) (kb : Nat) (B1_1 : Nat) (B1 : Nat) (i : Nat) (B8 : Nat) : Stable rCU32Cnt 5 rCU32Anc rCU32Trn (rCU32R D U n ub kb B1_1 B1 i B8) := by
  intro k9 L9 α α' ix9 hk hcl hα hact ht
  have hp := act_places hact
  replace hp : ix9 ∈ [999, 1999, 2999, 3999, 4999] := hp
  simp only [List.mem_cons, List.not_mem_nil, or_false] at hp
  rcases hp with rfl | rfl | rfl | rfl | rfl
  · rfl
  · rfl
  · rfl
  · rfl
  · rfl
def callsUnPost (D : Dat) (U : Nat → Nat) (n ub kb : Nat) (sk : Int) (es : Nat) (w0 : World) (X : Nat → Obj → Prop) (e : Ending) (w' : World) : Prop :=
  e = .returned (.bool true) ∧ Own w0 w' [row (ub) 5 (itR U n), row (kb) 36 (clR D n 0)] X
set_option maxRecDepth 100000 in
set_option maxHeartbeats 1000000 in
theorem callsUn (D : Dat) (U : Nat → Nat) (n ub kb : Nat) (sk : Int) (es : Nat) (w0 w : World) (X : Nat → Obj → Prop) (hO : Own w0 w [row (ub) 5 (itR U n), row (kb) 36 (clR D n 0)] X) (hn4 : n ≤ 4096) (hu9 : ∀ i : Nat, i < n → U i < 256) (hkd : ∀ i : Nat, i < n → (U i : Int).tmod 3 = (D.kd i : Int)) (hk2 : ∀ i : Nat, D.kd i ≤ 2) (hLv : ∀ i : Nat, i < n → ¬ D.kd i = 0 → (sk = (i : Int) ∧ X (D.ad i) (.cells (callC (.iface 67 (.pointer (some ⟨es, 0, none⟩))) (i : Int)) 46 (0, 0))) ∨ (¬ (i : Int) = sk ∧ X (D.ad i) (.cells (callC (.iface 56 (.pointer (some ⟨(D.ib i), 0, none⟩))) (i : Int)) 46 (0, 0)) ∧ X (D.ib i) (.cells (idC D.src (D.inr i)) 58 (0, 0)))) :
    Calls Try.prog 13 #[.slice (some ⟨ub, 0, none⟩) n n, .slice (some ⟨kb, 0, none⟩) n n, .int .i64 sk, .agg #[.int .u32 D.src, .int .u32 D.inn], .agg #[.int .u32 D.src, .int .u32 D.inx]] w (callsUnPost D U n ub kb sk es w0 X) := by
  go_enter Try.func13, Try.ntmps13
  have hn9 : (n : Int) ≤ 4096 := by omega
  have hn8 : (0 : Int) ≤ (n : Int) := by omega
  go_wp2_with (first | (with_reducible refine Own.stay (fn := Try.f13) ?_) | fail)
  try with_reducible refine Own.Stay.mk ?_
  generalize hW : World.alloc _ _ = W2
  have hN : Own w0 W2 [row (w.heap.size + 1) 27 #[.int .u32 D.src, .int .u32 D.inx], row (w.heap.size) 27 #[.int .u32 D.src, .int .u32 D.inn], row (ub) 5 (itR U n), row (kb) 36 (clR D n 0)] X := by
    rw [← hW]
    exact ((hO).alloc' _ (w.heap.size) (by simp)).alloc' _ (w.heap.size + 1) (by simp)
  clear hW hO
  generalize w.heap.size + 1 = B1_1 at hN ⊢
  generalize w.heap.size = B1 at hN ⊢
  have hO := hN
  clear hN
  go_loopg [11] n (fun gf s11 wx => ∃ i : Nat, i + gf = n ∧ s11 = .int .i64 (i : Int) ∧ Own w0 wx [row (B1_1) 27 #[.int .u32 D.src, .int .u32 D.inx], row (B1) 27 #[.int .u32 D.src, .int .u32 D.inn], row (ub) 5 (itR U n), row (kb) 36 (clR D n 0)] X)
  case atStart => exact ⟨0, by omega, rfl, hO⟩
  obtain ⟨i, hin, rfl, hO⟩ := hrel
  by_cases hlt : i < n
  · skip
    obtain ⟨gq, rfl⟩ : ∃ gq, gk = gq + 1 := ⟨gk - 1, by omega⟩
    have hlt9 : (i : Int) < (n : Int) := by omega
    have hi8 : (0 : Int) ≤ (i : Int) := by omega
    have hki := hkd i hlt
    have hku := hu9 i hlt
    have hk2i := hk2 i
    by_cases h0 : D.kd i = 0
    · skip
      clear hLv
      obtain ⟨ix9, hix9, hax9, hjx9⟩ := hO.ix
      have ix9_0 : ix9 B1_1 = 0 := hjx9 0 _ _ rfl
      have ix9_1 : ix9 B1 = 1 := hjx9 1 _ _ rfl
      have ix9_2 : ix9 ub = 2 := hjx9 2 _ _ rfl
      have ix9_3 : ix9 kb = 3 := hjx9 3 _ _ rfl
      clear hjx9
      obtain ⟨c9_0_0, c9_0_1, lt9_0, y9_0, pl9_0⟩ := hO.k2 0 rfl
      obtain ⟨c9_1_0, c9_1_1, lt9_1, y9_1, pl9_1⟩ := hO.k2 1 rfl
      have c9_2_i : wr.cell? ⟨ub, i, none⟩ = some (.int .u8 (U i : Int)) := hO.cell 2 rfl (i) ((itR_get hlt))
      have lt9_2 : ub < wr.heap.size := hO.lt 2 rfl
      have y9_2 : ∀ o, wr.frozen? ⟨ub, o, none⟩ = false := hO.free 2 rfl
      have c9_3_i : wr.cell? ⟨kb, i, none⟩ = some (.pointer none) := hO.cell 3 rfl (i) (((clR_get 0 hlt).trans (congrArg some (clD_nil h0))))
      have lt9_3 : kb < wr.heap.size := hO.lt 3 rfl
      have y9_3 : ∀ o, wr.frozen? ⟨kb, o, none⟩ = false := hO.free 3 rfl
      have HO := Lib.hid hO
      clear hO
      go_wp2_with (first | (with_reducible refine Own.stay (fn := Try.f13) ?_) | fail)
      try with_reducible refine Own.Stay.mk ?_
      have hO := HO.out
      clear HO hix9 hax9 ix9_0 ix9_1 ix9_2 ix9_3 ix9 c9_0_0 c9_0_1 lt9_0 y9_0 pl9_0 c9_1_0 c9_1_1 lt9_1 y9_1 pl9_1 c9_2_i lt9_2 y9_2 c9_3_i lt9_3 y9_3
      have hN : Own w0 wr [row (B1_1) 27 #[.int .u32 D.src, .int .u32 D.inx], row (B1) 27 #[.int .u32 D.src, .int .u32 D.inn], row (ub) 5 (itR U n), row (kb) 36 (clR D n 0)] X := hO.sub [0, 1, 2, 3] (by decide)
      clear hO
      have hO := hN
      clear hN
      go_roundg gq
      case measure => omega
      case rel => exact ⟨i + 1, by omega, by first | rfl | simp, hO⟩
    rcases hLv i hlt h0 with ⟨rfl, hx⟩ | ⟨hsk, hx, hy⟩
    · skip
      obtain ⟨ix9, hix9, hax9, hjx9⟩ := hO.ix
      have ix9_0 : ix9 B1_1 = 0 := hjx9 0 _ _ rfl
      have ix9_1 : ix9 B1 = 1 := hjx9 1 _ _ rfl
      have ix9_2 : ix9 ub = 2 := hjx9 2 _ _ rfl
      have ix9_3 : ix9 kb = 3 := hjx9 3 _ _ rfl
      clear hjx9
      obtain ⟨c9_0_0, c9_0_1, lt9_0, y9_0, pl9_0⟩ := hO.k2 0 rfl
      obtain ⟨c9_1_0, c9_1_1, lt9_1, y9_1, pl9_1⟩ := hO.k2 1 rfl
      have c9_2_i : wr.cell? ⟨ub, i, none⟩ = some (.int .u8 (U i : Int)) := hO.cell 2 rfl (i) ((itR_get hlt))
      have lt9_2 : ub < wr.heap.size := hO.lt 2 rfl
      have y9_2 : ∀ o, wr.frozen? ⟨ub, o, none⟩ = false := hO.free 2 rfl
      have c9_3_i : wr.cell? ⟨kb, i, none⟩ = some (.pointer (some ⟨D.ad i, 0, none⟩)) := hO.cell 3 rfl (i) (((clR_get 0 hlt).trans (congrArg some (clD_call h0))))
      have lt9_3 : kb < wr.heap.size := hO.lt 3 rfl
      have y9_3 : ∀ o, wr.frozen? ⟨kb, o, none⟩ = false := hO.free 3 rfl
      have HO := Lib.hid hO
      clear hO
      have fx0_0 : wr.cell? ⟨D.ad i, 0, none⟩ = some (.iface 67 (.pointer (some ⟨es, 0, none⟩))) := HO.out.fcell hx 0 rfl
      have fx0_1 : wr.cell? ⟨D.ad i, 1, none⟩ = some (.int .i32 (i : Int)) := HO.out.fcell hx 1 rfl
      have fx0_2 : wr.cell? ⟨D.ad i, 2, none⟩ = some (.slice none 0 0) := HO.out.fcell hx 2 rfl
      have fx0_3 : wr.cell? ⟨D.ad i, 3, none⟩ = some (.int .i32 0) := HO.out.fcell hx 3 rfl
      have fx0_4 : wr.cell? ⟨D.ad i, 4, none⟩ = some (.int .u8 0) := HO.out.fcell hx 4 rfl
      have fx0_5 : wr.cell? ⟨D.ad i, 5, none⟩ = some (.int .u8 0) := HO.out.fcell hx 5 rfl
      have fx0_6 : wr.cell? ⟨D.ad i, 6, none⟩ = some (.bool false) := HO.out.fcell hx 6 rfl
      have fx0_7 : wr.cell? ⟨D.ad i, 7, none⟩ = some (.bool false) := HO.out.fcell hx 7 rfl
      go_wp2_with (first | (with_reducible refine Own.stay (fn := Try.f13) ?_) | fail)
      try with_reducible refine Own.Stay.mk ?_
      have hO := HO.out
      clear HO hix9 hax9 ix9_0 ix9_1 ix9_2 ix9_3 ix9 fx0_0 fx0_1 fx0_2 fx0_3 fx0_4 fx0_5 fx0_6 fx0_7 c9_0_0 c9_0_1 lt9_0 y9_0 pl9_0 c9_1_0 c9_1_1 lt9_1 y9_1 pl9_1 c9_2_i lt9_2 y9_2 c9_3_i lt9_3 y9_3
      have hL := hO.apart
      have hX := hO.apartX
      have HL := Lib.hid hL
      have HX := Lib.hid hX
      clear hL hX
      have hP9 := hO.pick [] (by decide)
      have T9 := asId0 es (i : Int) _ _ _ hP9 
      refine Calls.mono T9 ?_
      clear hP9 T9
      rintro e u3 ⟨rfl, hQ⟩
      have hN : Own w0 u3 [row (B1_1) 27 #[.int .u32 D.src, .int .u32 D.inx], row (B1) 27 #[.int .u32 D.src, .int .u32 D.inn], row (ub) 5 (itR U n), row (kb) 36 (clR D n 0)] X := hQ.back HL.out HX.out [0, 1, 2, 3] (by decide) (by decide)
      clear hQ HL HX hO
      have hO := hN
      clear hN
      try simp only []
      obtain ⟨c9_0_0, c9_0_1, lt9_0, y9_0, -⟩ := hO.k2 0 rfl
      obtain ⟨c9_1_0, c9_1_1, lt9_1, y9_1, -⟩ := hO.k2 1 rfl
      have HO := Lib.hid hO
      clear hO
      have fx0_0 : u3.cell? ⟨D.ad i, 0, none⟩ = some (.iface 67 (.pointer (some ⟨es, 0, none⟩))) := HO.out.fcell hx 0 rfl
      have fx0_1 : u3.cell? ⟨D.ad i, 1, none⟩ = some (.int .i32 (i : Int)) := HO.out.fcell hx 1 rfl
      have fx0_2 : u3.cell? ⟨D.ad i, 2, none⟩ = some (.slice none 0 0) := HO.out.fcell hx 2 rfl
      have fx0_3 : u3.cell? ⟨D.ad i, 3, none⟩ = some (.int .i32 0) := HO.out.fcell hx 3 rfl
      have fx0_4 : u3.cell? ⟨D.ad i, 4, none⟩ = some (.int .u8 0) := HO.out.fcell hx 4 rfl
      have fx0_5 : u3.cell? ⟨D.ad i, 5, none⟩ = some (.int .u8 0) := HO.out.fcell hx 5 rfl
      have fx0_6 : u3.cell? ⟨D.ad i, 6, none⟩ = some (.bool false) := HO.out.fcell hx 6 rfl
      have fx0_7 : u3.cell? ⟨D.ad i, 7, none⟩ = some (.bool false) := HO.out.fcell hx 7 rfl
      go_wp2_with (first | (with_reducible refine Own.stay (fn := Try.f13) ?_) | fail)
      try with_reducible refine Own.Stay.mk ?_
      have hO := HO.out
      clear HO fx0_0 fx0_1 fx0_2 fx0_3 fx0_4 fx0_5 fx0_6 fx0_7 c9_0_0 c9_0_1 lt9_0 y9_0 c9_1_0 c9_1_1 lt9_1 y9_1
      have hN : Own w0 u3 [row (B1_1) 27 #[.int .u32 D.src, .int .u32 D.inx], row (B1) 27 #[.int .u32 D.src, .int .u32 D.inn], row (ub) 5 (itR U n), row (kb) 36 (clR D n 0)] X := hO.sub [0, 1, 2, 3] (by decide)
      clear hO
      have hO := hN
      clear hN
      go_roundg gq
      case measure => omega
      case rel => exact ⟨i + 1, by omega, by first | rfl | simp, hO⟩
    by_cases h1 : D.kd i = 1
    · skip
      have hrm : (U i : Int).tmod 3 = 1 := by rw [hki, h1]; rfl
      have hin1 : D.inr i = D.inn := if_pos h1
      rw [hin1] at hy
      clear hki
      obtain ⟨ix9, hix9, hax9, hjx9⟩ := hO.ix
      have ix9_0 : ix9 B1_1 = 0 := hjx9 0 _ _ rfl
      have ix9_1 : ix9 B1 = 1 := hjx9 1 _ _ rfl
      have ix9_2 : ix9 ub = 2 := hjx9 2 _ _ rfl
      have ix9_3 : ix9 kb = 3 := hjx9 3 _ _ rfl
      clear hjx9
      obtain ⟨c9_0_0, c9_0_1, lt9_0, y9_0, pl9_0⟩ := hO.k2 0 rfl
      obtain ⟨c9_1_0, c9_1_1, lt9_1, y9_1, pl9_1⟩ := hO.k2 1 rfl
      have c9_2_i : wr.cell? ⟨ub, i, none⟩ = some (.int .u8 (U i : Int)) := hO.cell 2 rfl (i) ((itR_get hlt))
      have lt9_2 : ub < wr.heap.size := hO.lt 2 rfl
      have y9_2 : ∀ o, wr.frozen? ⟨ub, o, none⟩ = false := hO.free 2 rfl
      have c9_3_i : wr.cell? ⟨kb, i, none⟩ = some (.pointer (some ⟨D.ad i, 0, none⟩)) := hO.cell 3 rfl (i) (((clR_get 0 hlt).trans (congrArg some (clD_call h0))))
      have lt9_3 : kb < wr.heap.size := hO.lt 3 rfl
      have y9_3 : ∀ o, wr.frozen? ⟨kb, o, none⟩ = false := hO.free 3 rfl
      have HO := Lib.hid hO
      clear hO
      have fx0_0 : wr.cell? ⟨D.ad i, 0, none⟩ = some (.iface 56 (.pointer (some ⟨D.ib i, 0, none⟩))) := HO.out.fcell hx 0 rfl
      have fx0_1 : wr.cell? ⟨D.ad i, 1, none⟩ = some (.int .i32 (i : Int)) := HO.out.fcell hx 1 rfl
      have fx0_2 : wr.cell? ⟨D.ad i, 2, none⟩ = some (.slice none 0 0) := HO.out.fcell hx 2 rfl
      have fx0_3 : wr.cell? ⟨D.ad i, 3, none⟩ = some (.int .i32 0) := HO.out.fcell hx 3 rfl
      have fx0_4 : wr.cell? ⟨D.ad i, 4, none⟩ = some (.int .u8 0) := HO.out.fcell hx 4 rfl
      have fx0_5 : wr.cell? ⟨D.ad i, 5, none⟩ = some (.int .u8 0) := HO.out.fcell hx 5 rfl
      have fx0_6 : wr.cell? ⟨D.ad i, 6, none⟩ = some (.bool false) := HO.out.fcell hx 6 rfl
      have fx0_7 : wr.cell? ⟨D.ad i, 7, none⟩ = some (.bool false) := HO.out.fcell hx 7 rfl
      have fx1_0 : wr.cell? ⟨D.ib i, 0, none⟩ = some (.int .u32 D.src) := HO.out.fcell hy 0 rfl
      have fx1_1 : wr.cell? ⟨D.ib i, 1, none⟩ = some (.int .u32 D.inn) := HO.out.fcell hy 1 rfl
      have fx1_2 : wr.cell? ⟨D.ib i, 2, none⟩ = some (.bool false) := HO.out.fcell hy 2 rfl
      have fx1_3 : wr.cell? ⟨D.ib i, 3, none⟩ = some (.bool false) := HO.out.fcell hy 3 rfl
      have fx1_4 : wr.cell? ⟨D.ib i, 4, none⟩ = some (.bool false) := HO.out.fcell hy 4 rfl
      go_wp2_with (first | (with_reducible refine Own.stay (fn := Try.f13) ?_) | fail)
      try with_reducible refine Own.Stay.mk ?_
      have hO := HO.out
      clear HO hix9 hax9 ix9_0 ix9_1 ix9_2 ix9_3 ix9 fx0_0 fx0_1 fx0_2 fx0_3 fx0_4 fx0_5 fx0_6 fx0_7 fx1_0 fx1_1 fx1_2 fx1_3 fx1_4 c9_0_0 c9_0_1 lt9_0 y9_0 pl9_0 c9_1_0 c9_1_1 lt9_1 y9_1 pl9_1 c9_2_i lt9_2 y9_2 c9_3_i lt9_3 y9_3
      have hL := hO.apart
      have hX := hO.apartX
      have HL := Lib.hid hL
      have HX := Lib.hid hX
      clear hL hX
      have hP9 := hO.pick [] (by decide)
      have T9 := asId1 (D.ib i) (i : Int) _ _ _ hP9 
      refine Calls.mono T9 ?_
      clear hP9 T9
      rintro e u4 ⟨rfl, hQ⟩
      have hN : Own w0 u4 [row (B1_1) 27 #[.int .u32 D.src, .int .u32 D.inx], row (B1) 27 #[.int .u32 D.src, .int .u32 D.inn], row (ub) 5 (itR U n), row (kb) 36 (clR D n 0)] X := hQ.back HL.out HX.out [0, 1, 2, 3] (by decide) (by decide)
      clear hQ HL HX hO
      have hO := hN
      clear hN
      try simp only []
      obtain ⟨ix9, hix9, hax9, hjx9⟩ := hO.ix
      have ix9_0 : ix9 B1_1 = 0 := hjx9 0 _ _ rfl
      have ix9_1 : ix9 B1 = 1 := hjx9 1 _ _ rfl
      have ix9_2 : ix9 ub = 2 := hjx9 2 _ _ rfl
      have ix9_3 : ix9 kb = 3 := hjx9 3 _ _ rfl
      clear hjx9
      obtain ⟨c9_0_0, c9_0_1, lt9_0, y9_0, pl9_0⟩ := hO.k2 0 rfl
      obtain ⟨c9_1_0, c9_1_1, lt9_1, y9_1, pl9_1⟩ := hO.k2 1 rfl
      have c9_2_i : u4.cell? ⟨ub, i, none⟩ = some (.int .u8 (U i : Int)) := hO.cell 2 rfl (i) ((itR_get hlt))
      have lt9_2 : ub < u4.heap.size := hO.lt 2 rfl
      have y9_2 : ∀ o, u4.frozen? ⟨ub, o, none⟩ = false := hO.free 2 rfl
      have c9_3_i : u4.cell? ⟨kb, i, none⟩ = some (.pointer (some ⟨D.ad i, 0, none⟩)) := hO.cell 3 rfl (i) (((clR_get 0 hlt).trans (congrArg some (clD_call h0))))
      have lt9_3 : kb < u4.heap.size := hO.lt 3 rfl
      have y9_3 : ∀ o, u4.frozen? ⟨kb, o, none⟩ = false := hO.free 3 rfl
      have HO := Lib.hid hO
      clear hO
      have fx0_0 : u4.cell? ⟨D.ad i, 0, none⟩ = some (.iface 56 (.pointer (some ⟨D.ib i, 0, none⟩))) := HO.out.fcell hx 0 rfl
      have fx0_1 : u4.cell? ⟨D.ad i, 1, none⟩ = some (.int .i32 (i : Int)) := HO.out.fcell hx 1 rfl
      have fx0_2 : u4.cell? ⟨D.ad i, 2, none⟩ = some (.slice none 0 0) := HO.out.fcell hx 2 rfl
      have fx0_3 : u4.cell? ⟨D.ad i, 3, none⟩ = some (.int .i32 0) := HO.out.fcell hx 3 rfl
      have fx0_4 : u4.cell? ⟨D.ad i, 4, none⟩ = some (.int .u8 0) := HO.out.fcell hx 4 rfl
      have fx0_5 : u4.cell? ⟨D.ad i, 5, none⟩ = some (.int .u8 0) := HO.out.fcell hx 5 rfl
      have fx0_6 : u4.cell? ⟨D.ad i, 6, none⟩ = some (.bool false) := HO.out.fcell hx 6 rfl
      have fx0_7 : u4.cell? ⟨D.ad i, 7, none⟩ = some (.bool false) := HO.out.fcell hx 7 rfl
      have fx1_0 : u4.cell? ⟨D.ib i, 0, none⟩ = some (.int .u32 D.src) := HO.out.fcell hy 0 rfl
      have fx1_1 : u4.cell? ⟨D.ib i, 1, none⟩ = some (.int .u32 D.inn) := HO.out.fcell hy 1 rfl
      have fx1_2 : u4.cell? ⟨D.ib i, 2, none⟩ = some (.bool false) := HO.out.fcell hy 2 rfl
      have fx1_3 : u4.cell? ⟨D.ib i, 3, none⟩ = some (.bool false) := HO.out.fcell hy 3 rfl
      have fx1_4 : u4.cell? ⟨D.ib i, 4, none⟩ = some (.bool false) := HO.out.fcell hy 4 rfl
      go_wp2_with (first | (with_reducible refine Own.stay (fn := Try.f13) ?_) | fail)
      try with_reducible refine Own.Stay.mk ?_
      have hO := HO.out
      clear HO hix9 hax9 ix9_0 ix9_1 ix9_2 ix9_3 ix9 fx0_0 fx0_1 fx0_2 fx0_3 fx0_4 fx0_5 fx0_6 fx0_7 fx1_0 fx1_1 fx1_2 fx1_3 fx1_4 c9_0_0 c9_0_1 lt9_0 y9_0 pl9_0 c9_1_0 c9_1_1 lt9_1 y9_1 pl9_1 c9_2_i lt9_2 y9_2 c9_3_i lt9_3 y9_3
      generalize hW : World.alloc _ _ = W6
      have hN : Own w0 W6 [row (u4.heap.size) 27 #[.int .u32 D.src, .int .u32 D.inn], row (B1_1) 27 #[.int .u32 D.src, .int .u32 D.inx], row (B1) 27 #[.int .u32 D.src, .int .u32 D.inn], row (ub) 5 (itR U n), row (kb) 36 (clR D n 0)] X := by
        rw [← hW]
        exact (hO).alloc' _ (u4.heap.size) (by simp)
      clear hW hO
      generalize u4.heap.size = B5 at hN ⊢
      have hO := hN
      clear hN
      have st9 := rCU22_st D U n ub kb B1_1 B1 i B5
      let R9 := rCU22R D U n ub kb B1_1 B1 i B5
      refine wp_region_own (e := rCU22E D U n ub kb B1_1 B1 i B5) (anc := rCU22Anc) (G := (fun L9 α u9 => OwnF w0 u9 (act rCU22Cnt 5 L9) (rCU22R D U n ub kb B1_1 B1 i B5 L9 α) X)) (by kernel_rfl) (by kernel_rfl) (by kernel_rfl) (by kernel_rfl) (rCU22_he D U n ub kb B1_1 B1 i B5) ?_ (RunsAll.all ?_) ?_
      · have hp : ∀ i, act rCU22Cnt 5 (fun _ => false) i → i ∈ [999, 1999, 2999, 3999, 4999] := by
          intro i hi
          have h9 : i % 1000 = 999 := by
            by_cases h : i % 1000 = 999
            · exact h
            · exact absurd (act_lt hi h) (by simp)
          unfold act at hi
          rw [if_pos h9] at hi
          simp only [List.mem_cons, List.not_mem_nil, or_false]
          omega
        refine hO.drew.family (fun i hi => ?_) (fun i j hi hj hij => ?_)
        · have := hp i hi
          simp only [List.mem_cons, List.not_mem_nil, or_false] at this
          rcases this with rfl | rfl | rfl | rfl | rfl <;> rfl
        · have h1 := hp i hi
          have h2 := hp j hj
          simp only [List.mem_cons, List.not_mem_nil, or_false] at h1 h2
          omega
      · refine ⟨?_, ?_, ?_, ?_, ?_, ?_, trivial⟩
        · intro L9 α a9 u9 K9 hL hcl hA hG hS h0 hK
          replace hL : L9 0 = false := hL
          have q12 : a9.tmps[12]? = some (.pointer (some ⟨D.ib i, 0, none⟩)) := (h0 12 (by kernel_rfl)).trans rfl
          have s12 := Rega.eval_of q12
          go_simp
          exact hK _ α _ (fun _ _ => rfl) rfl (step_same (st9) hL hcl rfl rfl hG)
        · intro L9 α a9 u9 K9 hL hcl hA hG hS h0 hK
          replace hL : L9 1 = false := hL
          have q55 : a9.tmps[55]? = some (.pointer (some ⟨D.ib i, 0, none⟩)) := hS 0 55 (by decide) rfl (by show 55 < 61; decide)
          have s55 := Rega.eval_of q55
          go_simp
          exact hK _ α _ (fun _ _ => rfl) rfl (step_same (st9) hL hcl rfl rfl hG)
        · intro L9 α a9 u9 K9 hL hcl hA hG hS h0 hK
          replace hL : L9 2 = false := hL
          have q56 : a9.tmps[56]? = some (.pointer (some ⟨D.ib i, 0, none⟩)) := hS 1 56 (by decide) rfl (by show 56 < 61; decide)
          have s56 := Rega.eval_of q56
          go_simp
          exact hK _ α _ (fun _ _ => rfl) rfl (step_same (st9) hL hcl rfl rfl hG)
        · intro L9 α a9 u9 K9 hL hcl hA hG hS h0 hK
          replace hL : L9 3 = false := hL
          have q57 : a9.tmps[57]? = some (.pointer (some ⟨D.ib i, 0, none⟩)) := hS 2 57 (by decide) rfl (by show 57 < 61; decide)
          have s57 := Rega.eval_of q57
          have c0 : u9.cell? ⟨D.ib i, 0, none⟩ = some (.int .u32 D.src) := Base.RowAt.cell (show Base.RowAt u9 (D.ib i) 58 (idC D.src D.inn) from (hG.frame _ _ hy).2.1) rfl
          have c1 : u9.cell? ⟨D.ib i, 1, none⟩ = some (.int .u32 D.inn) := Base.RowAt.cell (show Base.RowAt u9 (D.ib i) 58 (idC D.src D.inn) from (hG.frame _ _ hy).2.1) rfl
          go_simp
          exact hK _ α _ (fun _ _ => rfl) rfl (step_same (st9) hL hcl rfl rfl hG)
        · intro L9 α a9 u9 K9 hL hcl hA hG hS h0 hK
          replace hL : L9 4 = false := hL
          have q14 : a9.tmps[14]? = some (.pointer (some ⟨B5, 0, none⟩)) := (h0 14 (by kernel_rfl)).trans rfl
          have s14 := Rega.eval_of q14
          have e0 : R9 L9 α 999 = row (B5) 27 #[.int .u32 D.src, .int .u32 D.inn] := rfl
          have hr := hG.rowAt 999 (act_base 999 rfl) e0
          have c0 : u9.cell? ⟨B5, 0, none⟩ = some (.int .u32 D.src) := hr.cell rfl
          have c1 : u9.cell? ⟨B5, 1, none⟩ = some (.int .u32 D.inn) := hr.cell rfl
          clear hr e0
          go_simp
          exact hK _ α _ (fun _ _ => rfl) rfl (step_same (st9) hL hcl rfl rfl hG)
        · intro L9 α a9 u9 K9 hL hcl hA hG hS h0 hK
          replace hL : L9 5 = false := hL
          have q58 : a9.tmps[58]? = some (.agg #[.int .u32 D.src, .int .u32 D.inn]) := hS 3 58 (by decide) rfl (by show 58 < 61; decide)
          have s58 := Rega.eval_of q58
          have q59 : a9.tmps[59]? = some (.agg #[.int .u32 D.src, .int .u32 D.inn]) := hS 4 59 (by decide) rfl (by show 59 < 61; decide)
          have s59 := Rega.eval_of q59
          go_simp
          exact hK _ α _ (fun _ _ => rfl) rfl (step_same (st9) hL hcl rfl rfl hG)
      clear st9
      intro α u hG
      have e0 : R9 (fun k => decide (k < 6)) α 999 = row (B5) 27 #[.int .u32 D.src, .int .u32 D.inn] := rfl
      have e1 : R9 (fun k => decide (k < 6)) α 1999 = row (B1_1) 27 #[.int .u32 D.src, .int .u32 D.inx] := rfl
      have e2 : R9 (fun k => decide (k < 6)) α 2999 = row (B1) 27 #[.int .u32 D.src, .int .u32 D.inn] := rfl
      have e3 : R9 (fun k => decide (k < 6)) α 3999 = row (ub) 5 (itR U n) := rfl
      have e4 : R9 (fun k => decide (k < 6)) α 4999 = row (kb) 36 (clR D n 0) := rfl
      have hO : Own w0 u [row (B5) 27 #[.int .u32 D.src, .int .u32 D.inn], row (B1_1) 27 #[.int .u32 D.src, .int .u32 D.inx], row (B1) 27 #[.int .u32 D.src, .int .u32 D.inn], row (ub) 5 (itR U n), row (kb) 36 (clR D n 0)] X := (hG.list [999, 1999, 2999, 3999, 4999] (by decide) (act_all (by decide))).conv (by
        show [R9 (fun k => decide (k < 6)) α 999, R9 (fun k => decide (k < 6)) α 1999, R9 (fun k => decide (k < 6)) α 2999, R9 (fun k => decide (k < 6)) α 3999, R9 (fun k => decide (k < 6)) α 4999] = _
        rw [e0, e1, e2, e3, e4])
      clear hG e0 e1 e2 e3 e4 R9
      generalize hfr : Rega.frameAt _ _ _ _ _ = fr
      have hdf : fr = ⟨#[.slice (some ⟨ub, 0, none⟩) n n, .slice (some ⟨kb, 0, none⟩) n n, .int .i64 sk, .agg #[.int .u32 D.src, .int .u32 D.inn], .agg #[.int .u32 D.src, .int .u32 D.inx], undef, undef, undef, .pointer (some ⟨B1, 0, none⟩), .pointer (some ⟨B1_1, 0, none⟩), u10, .int .i64 (i : Int), .pointer (some ⟨D.ib i, 0, none⟩), .bool true, .pointer (some ⟨B5, 0, none⟩), .int .i64 (i : Int), .slice (some ⟨kb, 0, none⟩) n n, .int .i64 (n : Int), .bool true, u19, u20, .slice (some ⟨kb, 0, none⟩) n n, .int .i64 (i : Int), .pointer (some ⟨kb, i, none⟩), .pointer (some ⟨D.ad i, 0, none⟩), .bool false, .tuple #[.pointer (some ⟨D.ib i, 0, none⟩), .bool true], .slice (some ⟨kb, 0, none⟩) n n, .int .i64 (i : Int), .pointer (some ⟨kb, i, none⟩), .pointer (some ⟨D.ad i, 0, none⟩), .pointer (some ⟨D.ad i, 0, none⟩), .pointer (some ⟨D.ad i, 0, none⟩), .agg #[.iface 56 (.pointer (some ⟨D.ib i, 0, none⟩)), .int .i32 (i : Int)], .tuple #[.pointer (some ⟨D.ib i, 0, none⟩), .bool true], .pointer (some ⟨D.ib i, 0, none⟩), .bool true, .int .i64 (i : Int), .int .i64 sk, .bool ((i : Int) == sk), u40, .bool true, .bool false, .bool false, .pointer (some ⟨D.ib i, 0, none⟩), .bool false, .bool false, .agg #[.int .u32 D.src, .int .u32 D.inx], .slice (some ⟨ub, 0, none⟩) n n, .int .i64 (i : Int), .pointer (some ⟨ub, i, none⟩), .int .u8 (U i : Int), .int .u8 1, .bool true, .agg #[.int .u32 D.src, .int .u32 D.inn], .pointer (some ⟨D.ib i, 0, none⟩), .pointer (some ⟨D.ib i, 0, none⟩), .pointer (some ⟨D.ib i, 0, none⟩), .agg #[.int .u32 D.src, .int .u32 D.inn], .agg #[.int .u32 D.src, .int .u32 D.inn], .bool false], []⟩ := by rw [← hfr]; kernel_rfl
      clear hfr
      subst hdf
      clear α
      obtain ⟨c9_0_0, c9_0_1, lt9_0, y9_0, -⟩ := hO.k2 0 rfl
      obtain ⟨c9_1_0, c9_1_1, lt9_1, y9_1, -⟩ := hO.k2 1 rfl
      obtain ⟨c9_2_0, c9_2_1, lt9_2, y9_2, -⟩ := hO.k2 2 rfl
      have HO := Lib.hid hO
      clear hO
      have fx0_0 : u.cell? ⟨D.ad i, 0, none⟩ = some (.iface 56 (.pointer (some ⟨D.ib i, 0, none⟩))) := HO.out.fcell hx 0 rfl
      have fx0_1 : u.cell? ⟨D.ad i, 1, none⟩ = some (.int .i32 (i : Int)) := HO.out.fcell hx 1 rfl
      have fx0_2 : u.cell? ⟨D.ad i, 2, none⟩ = some (.slice none 0 0) := HO.out.fcell hx 2 rfl
      have fx0_3 : u.cell? ⟨D.ad i, 3, none⟩ = some (.int .i32 0) := HO.out.fcell hx 3 rfl
      have fx0_4 : u.cell? ⟨D.ad i, 4, none⟩ = some (.int .u8 0) := HO.out.fcell hx 4 rfl
      have fx0_5 : u.cell? ⟨D.ad i, 5, none⟩ = some (.int .u8 0) := HO.out.fcell hx 5 rfl
      have fx0_6 : u.cell? ⟨D.ad i, 6, none⟩ = some (.bool false) := HO.out.fcell hx 6 rfl
      have fx0_7 : u.cell? ⟨D.ad i, 7, none⟩ = some (.bool false) := HO.out.fcell hx 7 rfl
      have fx1_0 : u.cell? ⟨D.ib i, 0, none⟩ = some (.int .u32 D.src) := HO.out.fcell hy 0 rfl
      have fx1_1 : u.cell? ⟨D.ib i, 1, none⟩ = some (.int .u32 D.inn) := HO.out.fcell hy 1 rfl
      have fx1_2 : u.cell? ⟨D.ib i, 2, none⟩ = some (.bool false) := HO.out.fcell hy 2 rfl
      have fx1_3 : u.cell? ⟨D.ib i, 3, none⟩ = some (.bool false) := HO.out.fcell hy 3 rfl
      have fx1_4 : u.cell? ⟨D.ib i, 4, none⟩ = some (.bool false) := HO.out.fcell hy 4 rfl
      go_wp2_with (first | (with_reducible refine Own.stay (fn := Try.f13) ?_) | fail)
      try with_reducible refine Own.Stay.mk ?_
      have hO := HO.out
      clear HO fx0_0 fx0_1 fx0_2 fx0_3 fx0_4 fx0_5 fx0_6 fx0_7 fx1_0 fx1_1 fx1_2 fx1_3 fx1_4 c9_0_0 c9_0_1 lt9_0 y9_0 c9_1_0 c9_1_1 lt9_1 y9_1 c9_2_0 c9_2_1 lt9_2 y9_2
      have hN : Own w0 u [row (B1_1) 27 #[.int .u32 D.src, .int .u32 D.inx], row (B1) 27 #[.int .u32 D.src, .int .u32 D.inn], row (ub) 5 (itR U n), row (kb) 36 (clR D n 0)] X := hO.sub [1, 2, 3, 4] (by decide)
      clear hO
      have hO := hN
      clear hN
      go_roundg gq
      case measure => omega
      case rel => exact ⟨i + 1, by omega, by first | rfl | simp, hO⟩
    · skip
      have hrm : (U i : Int).tmod 3 = 2 := by rw [hki, show D.kd i = 2 by omega]; rfl
      have hin1 : D.inr i = D.inx := if_neg h1
      rw [hin1] at hy
      clear hki
      obtain ⟨ix9, hix9, hax9, hjx9⟩ := hO.ix
      have ix9_0 : ix9 B1_1 = 0 := hjx9 0 _ _ rfl
      have ix9_1 : ix9 B1 = 1 := hjx9 1 _ _ rfl
      have ix9_2 : ix9 ub = 2 := hjx9 2 _ _ rfl
      have ix9_3 : ix9 kb = 3 := hjx9 3 _ _ rfl
      clear hjx9
      obtain ⟨c9_0_0, c9_0_1, lt9_0, y9_0, pl9_0⟩ := hO.k2 0 rfl
      obtain ⟨c9_1_0, c9_1_1, lt9_1, y9_1, pl9_1⟩ := hO.k2 1 rfl
      have c9_2_i : wr.cell? ⟨ub, i, none⟩ = some (.int .u8 (U i : Int)) := hO.cell 2 rfl (i) ((itR_get hlt))
      have lt9_2 : ub < wr.heap.size := hO.lt 2 rfl
      have y9_2 : ∀ o, wr.frozen? ⟨ub, o, none⟩ = false := hO.free 2 rfl
      have c9_3_i : wr.cell? ⟨kb, i, none⟩ = some (.pointer (some ⟨D.ad i, 0, none⟩)) := hO.cell 3 rfl (i) (((clR_get 0 hlt).trans (congrArg some (clD_call h0))))
      have lt9_3 : kb < wr.heap.size := hO.lt 3 rfl
      have y9_3 : ∀ o, wr.frozen? ⟨kb, o, none⟩ = false := hO.free 3 rfl
      have HO := Lib.hid hO
      clear hO
      have fx0_0 : wr.cell? ⟨D.ad i, 0, none⟩ = some (.iface 56 (.pointer (some ⟨D.ib i, 0, none⟩))) := HO.out.fcell hx 0 rfl
      have fx0_1 : wr.cell? ⟨D.ad i, 1, none⟩ = some (.int .i32 (i : Int)) := HO.out.fcell hx 1 rfl
      have fx0_2 : wr.cell? ⟨D.ad i, 2, none⟩ = some (.slice none 0 0) := HO.out.fcell hx 2 rfl
      have fx0_3 : wr.cell? ⟨D.ad i, 3, none⟩ = some (.int .i32 0) := HO.out.fcell hx 3 rfl
      have fx0_4 : wr.cell? ⟨D.ad i, 4, none⟩ = some (.int .u8 0) := HO.out.fcell hx 4 rfl
      have fx0_5 : wr.cell? ⟨D.ad i, 5, none⟩ = some (.int .u8 0) := HO.out.fcell hx 5 rfl
      have fx0_6 : wr.cell? ⟨D.ad i, 6, none⟩ = some (.bool false) := HO.out.fcell hx 6 rfl
      have fx0_7 : wr.cell? ⟨D.ad i, 7, none⟩ = some (.bool false) := HO.out.fcell hx 7 rfl
      have fx1_0 : wr.cell? ⟨D.ib i, 0, none⟩ = some (.int .u32 D.src) := HO.out.fcell hy 0 rfl
      have fx1_1 : wr.cell? ⟨D.ib i, 1, none⟩ = some (.int .u32 D.inx) := HO.out.fcell hy 1 rfl
      have fx1_2 : wr.cell? ⟨D.ib i, 2, none⟩ = some (.bool false) := HO.out.fcell hy 2 rfl
      have fx1_3 : wr.cell? ⟨D.ib i, 3, none⟩ = some (.bool false) := HO.out.fcell hy 3 rfl
      have fx1_4 : wr.cell? ⟨D.ib i, 4, none⟩ = some (.bool false) := HO.out.fcell hy 4 rfl
      go_wp2_with (first | (with_reducible refine Own.stay (fn := Try.f13) ?_) | fail)
      try with_reducible refine Own.Stay.mk ?_
      have hO := HO.out
      clear HO hix9 hax9 ix9_0 ix9_1 ix9_2 ix9_3 ix9 fx0_0 fx0_1 fx0_2 fx0_3 fx0_4 fx0_5 fx0_6 fx0_7 fx1_0 fx1_1 fx1_2 fx1_3 fx1_4 c9_0_0 c9_0_1 lt9_0 y9_0 pl9_0 c9_1_0 c9_1_1 lt9_1 y9_1 pl9_1 c9_2_i lt9_2 y9_2 c9_3_i lt9_3 y9_3
      have hL := hO.apart
      have hX := hO.apartX
      have HL := Lib.hid hL
      have HX := Lib.hid hX
      clear hL hX
      have hP9 := hO.pick [] (by decide)
      have T9 := asId1 (D.ib i) (i : Int) _ _ _ hP9 
      refine Calls.mono T9 ?_
      clear hP9 T9
      rintro e u7 ⟨rfl, hQ⟩
      have hN : Own w0 u7 [row (B1_1) 27 #[.int .u32 D.src, .int .u32 D.inx], row (B1) 27 #[.int .u32 D.src, .int .u32 D.inn], row (ub) 5 (itR U n), row (kb) 36 (clR D n 0)] X := hQ.back HL.out HX.out [0, 1, 2, 3] (by decide) (by decide)
      clear hQ HL HX hO
      have hO := hN
      clear hN
      try simp only []
      obtain ⟨ix9, hix9, hax9, hjx9⟩ := hO.ix
      have ix9_0 : ix9 B1_1 = 0 := hjx9 0 _ _ rfl
      have ix9_1 : ix9 B1 = 1 := hjx9 1 _ _ rfl
      have ix9_2 : ix9 ub = 2 := hjx9 2 _ _ rfl
      have ix9_3 : ix9 kb = 3 := hjx9 3 _ _ rfl
      clear hjx9
      obtain ⟨c9_0_0, c9_0_1, lt9_0, y9_0, pl9_0⟩ := hO.k2 0 rfl
      obtain ⟨c9_1_0, c9_1_1, lt9_1, y9_1, pl9_1⟩ := hO.k2 1 rfl
      have c9_2_i : u7.cell? ⟨ub, i, none⟩ = some (.int .u8 (U i : Int)) := hO.cell 2 rfl (i) ((itR_get hlt))
      have lt9_2 : ub < u7.heap.size := hO.lt 2 rfl
      have y9_2 : ∀ o, u7.frozen? ⟨ub, o, none⟩ = false := hO.free 2 rfl
      have c9_3_i : u7.cell? ⟨kb, i, none⟩ = some (.pointer (some ⟨D.ad i, 0, none⟩)) := hO.cell 3 rfl (i) (((clR_get 0 hlt).trans (congrArg some (clD_call h0))))
      have lt9_3 : kb < u7.heap.size := hO.lt 3 rfl
      have y9_3 : ∀ o, u7.frozen? ⟨kb, o, none⟩ = false := hO.free 3 rfl
      have HO := Lib.hid hO
      clear hO
      have fx0_0 : u7.cell? ⟨D.ad i, 0, none⟩ = some (.iface 56 (.pointer (some ⟨D.ib i, 0, none⟩))) := HO.out.fcell hx 0 rfl
      have fx0_1 : u7.cell? ⟨D.ad i, 1, none⟩ = some (.int .i32 (i : Int)) := HO.out.fcell hx 1 rfl
      have fx0_2 : u7.cell? ⟨D.ad i, 2, none⟩ = some (.slice none 0 0) := HO.out.fcell hx 2 rfl
      have fx0_3 : u7.cell? ⟨D.ad i, 3, none⟩ = some (.int .i32 0) := HO.out.fcell hx 3 rfl
      have fx0_4 : u7.cell? ⟨D.ad i, 4, none⟩ = some (.int .u8 0) := HO.out.fcell hx 4 rfl
      have fx0_5 : u7.cell? ⟨D.ad i, 5, none⟩ = some (.int .u8 0) := HO.out.fcell hx 5 rfl
      have fx0_6 : u7.cell? ⟨D.ad i, 6, none⟩ = some (.bool false) := HO.out.fcell hx 6 rfl
      have fx0_7 : u7.cell? ⟨D.ad i, 7, none⟩ = some (.bool false) := HO.out.fcell hx 7 rfl
      have fx1_0 : u7.cell? ⟨D.ib i, 0, none⟩ = some (.int .u32 D.src) := HO.out.fcell hy 0 rfl
      have fx1_1 : u7.cell? ⟨D.ib i, 1, none⟩ = some (.int .u32 D.inx) := HO.out.fcell hy 1 rfl
      have fx1_2 : u7.cell? ⟨D.ib i, 2, none⟩ = some (.bool false) := HO.out.fcell hy 2 rfl
      have fx1_3 : u7.cell? ⟨D.ib i, 3, none⟩ = some (.bool false) := HO.out.fcell hy 3 rfl
      have fx1_4 : u7.cell? ⟨D.ib i, 4, none⟩ = some (.bool false) := HO.out.fcell hy 4 rfl
      go_wp2_with (first | (with_reducible refine Own.stay (fn := Try.f13) ?_) | fail)
      try with_reducible refine Own.Stay.mk ?_
      have hO := HO.out
      clear HO hix9 hax9 ix9_0 ix9_1 ix9_2 ix9_3 ix9 fx0_0 fx0_1 fx0_2 fx0_3 fx0_4 fx0_5 fx0_6 fx0_7 fx1_0 fx1_1 fx1_2 fx1_3 fx1_4 c9_0_0 c9_0_1 lt9_0 y9_0 pl9_0 c9_1_0 c9_1_1 lt9_1 y9_1 pl9_1 c9_2_i lt9_2 y9_2 c9_3_i lt9_3 y9_3
      generalize hW : World.alloc _ _ = W9
      have hN : Own w0 W9 [row (u7.heap.size) 27 #[.int .u32 D.src, .int .u32 D.inx], row (B1_1) 27 #[.int .u32 D.src, .int .u32 D.inx], row (B1) 27 #[.int .u32 D.src, .int .u32 D.inn], row (ub) 5 (itR U n), row (kb) 36 (clR D n 0)] X := by
        rw [← hW]
        exact (hO).alloc' _ (u7.heap.size) (by simp)
      clear hW hO
      generalize u7.heap.size = B8 at hN ⊢
      have hO := hN
      clear hN
      have st9 := rCU32_st D U n ub kb B1_1 B1 i B8
      let R9 := rCU32R D U n ub kb B1_1 B1 i B8
      refine wp_region_own (e := rCU32E D U n ub kb B1_1 B1 i B8) (anc := rCU32Anc) (G := (fun L9 α u9 => OwnF w0 u9 (act rCU32Cnt 5 L9) (rCU32R D U n ub kb B1_1 B1 i B8 L9 α) X)) (by kernel_rfl) (by kernel_rfl) (by kernel_rfl) (by kernel_rfl) (rCU32_he D U n ub kb B1_1 B1 i B8) ?_ (RunsAll.all ?_) ?_
      · have hp : ∀ i, act rCU32Cnt 5 (fun _ => false) i → i ∈ [999, 1999, 2999, 3999, 4999] := by
          intro i hi
          have h9 : i % 1000 = 999 := by
            by_cases h : i % 1000 = 999
            · exact h
            · exact absurd (act_lt hi h) (by simp)
          unfold act at hi
          rw [if_pos h9] at hi
          simp only [List.mem_cons, List.not_mem_nil, or_false]
          omega
        refine hO.drew.family (fun i hi => ?_) (fun i j hi hj hij => ?_)
        · have := hp i hi
          simp only [List.mem_cons, List.not_mem_nil, or_false] at this
          rcases this with rfl | rfl | rfl | rfl | rfl <;> rfl
        · have h1 := hp i hi
          have h2 := hp j hj
          simp only [List.mem_cons, List.not_mem_nil, or_false] at h1 h2
          omega
      · refine ⟨?_, ?_, ?_, ?_, ?_, ?_, trivial⟩
        · intro L9 α a9 u9 K9 hL hcl hA hG hS h0 hK
          replace hL : L9 0 = false := hL
          have q12 : a9.tmps[12]? = some (.pointer (some ⟨D.ib i, 0, none⟩)) := (h0 12 (by kernel_rfl)).trans rfl
          have s12 := Rega.eval_of q12
          go_simp
          exact hK _ α _ (fun _ _ => rfl) rfl (step_same (st9) hL hcl rfl rfl hG)
        · intro L9 α a9 u9 K9 hL hcl hA hG hS h0 hK
          replace hL : L9 1 = false := hL
          have q55 : a9.tmps[55]? = some (.pointer (some ⟨D.ib i, 0, none⟩)) := hS 0 55 (by decide) rfl (by show 55 < 61; decide)
          have s55 := Rega.eval_of q55
          go_simp
          exact hK _ α _ (fun _ _ => rfl) rfl (step_same (st9) hL hcl rfl rfl hG)
        · intro L9 α a9 u9 K9 hL hcl hA hG hS h0 hK
          replace hL : L9 2 = false := hL
          have q56 : a9.tmps[56]? = some (.pointer (some ⟨D.ib i, 0, none⟩)) := hS 1 56 (by decide) rfl (by show 56 < 61; decide)
          have s56 := Rega.eval_of q56
          go_simp
          exact hK _ α _ (fun _ _ => rfl) rfl (step_same (st9) hL hcl rfl rfl hG)
        · intro L9 α a9 u9 K9 hL hcl hA hG hS h0 hK
          replace hL : L9 3 = false := hL
          have q57 : a9.tmps[57]? = some (.pointer (some ⟨D.ib i, 0, none⟩)) := hS 2 57 (by decide) rfl (by show 57 < 61; decide)
          have s57 := Rega.eval_of q57
          have c0 : u9.cell? ⟨D.ib i, 0, none⟩ = some (.int .u32 D.src) := Base.RowAt.cell (show Base.RowAt u9 (D.ib i) 58 (idC D.src D.inx) from (hG.frame _ _ hy).2.1) rfl
          have c1 : u9.cell? ⟨D.ib i, 1, none⟩ = some (.int .u32 D.inx) := Base.RowAt.cell (show Base.RowAt u9 (D.ib i) 58 (idC D.src D.inx) from (hG.frame _ _ hy).2.1) rfl
          go_simp
          exact hK _ α _ (fun _ _ => rfl) rfl (step_same (st9) hL hcl rfl rfl hG)
        · intro L9 α a9 u9 K9 hL hcl hA hG hS h0 hK
          replace hL : L9 4 = false := hL
          have q14 : a9.tmps[14]? = some (.pointer (some ⟨B8, 0, none⟩)) := (h0 14 (by kernel_rfl)).trans rfl
          have s14 := Rega.eval_of q14
          have e0 : R9 L9 α 999 = row (B8) 27 #[.int .u32 D.src, .int .u32 D.inx] := rfl
          have hr := hG.rowAt 999 (act_base 999 rfl) e0
          have c0 : u9.cell? ⟨B8, 0, none⟩ = some (.int .u32 D.src) := hr.cell rfl
          have c1 : u9.cell? ⟨B8, 1, none⟩ = some (.int .u32 D.inx) := hr.cell rfl
          clear hr e0
          go_simp
          exact hK _ α _ (fun _ _ => rfl) rfl (step_same (st9) hL hcl rfl rfl hG)
        · intro L9 α a9 u9 K9 hL hcl hA hG hS h0 hK
          replace hL : L9 5 = false := hL
          have q58 : a9.tmps[58]? = some (.agg #[.int .u32 D.src, .int .u32 D.inx]) := hS 3 58 (by decide) rfl (by show 58 < 61; decide)
          have s58 := Rega.eval_of q58
          have q59 : a9.tmps[59]? = some (.agg #[.int .u32 D.src, .int .u32 D.inx]) := hS 4 59 (by decide) rfl (by show 59 < 61; decide)
          have s59 := Rega.eval_of q59
          go_simp
          exact hK _ α _ (fun _ _ => rfl) rfl (step_same (st9) hL hcl rfl rfl hG)
      clear st9
      intro α u hG
      have e0 : R9 (fun k => decide (k < 6)) α 999 = row (B8) 27 #[.int .u32 D.src, .int .u32 D.inx] := rfl
      have e1 : R9 (fun k => decide (k < 6)) α 1999 = row (B1_1) 27 #[.int .u32 D.src, .int .u32 D.inx] := rfl
      have e2 : R9 (fun k => decide (k < 6)) α 2999 = row (B1) 27 #[.int .u32 D.src, .int .u32 D.inn] := rfl
      have e3 : R9 (fun k => decide (k < 6)) α 3999 = row (ub) 5 (itR U n) := rfl
      have e4 : R9 (fun k => decide (k < 6)) α 4999 = row (kb) 36 (clR D n 0) := rfl
      have hO : Own w0 u [row (B8) 27 #[.int .u32 D.src, .int .u32 D.inx], row (B1_1) 27 #[.int .u32 D.src, .int .u32 D.inx], row (B1) 27 #[.int .u32 D.src, .int .u32 D.inn], row (ub) 5 (itR U n), row (kb) 36 (clR D n 0)] X := (hG.list [999, 1999, 2999, 3999, 4999] (by decide) (act_all (by decide))).conv (by
        show [R9 (fun k => decide (k < 6)) α 999, R9 (fun k => decide (k < 6)) α 1999, R9 (fun k => decide (k < 6)) α 2999, R9 (fun k => decide (k < 6)) α 3999, R9 (fun k => decide (k < 6)) α 4999] = _
        rw [e0, e1, e2, e3, e4])
      clear hG e0 e1 e2 e3 e4 R9
      generalize hfr : Rega.frameAt _ _ _ _ _ = fr
      have hdf : fr = ⟨#[.slice (some ⟨ub, 0, none⟩) n n, .slice (some ⟨kb, 0, none⟩) n n, .int .i64 sk, .agg #[.int .u32 D.src, .int .u32 D.inn], .agg #[.int .u32 D.src, .int .u32 D.inx], undef, undef, undef, .pointer (some ⟨B1, 0, none⟩), .pointer (some ⟨B1_1, 0, none⟩), u10, .int .i64 (i : Int), .pointer (some ⟨D.ib i, 0, none⟩), .bool true, .pointer (some ⟨B8, 0, none⟩), .int .i64 (i : Int), .slice (some ⟨kb, 0, none⟩) n n, .int .i64 (n : Int), .bool true, u19, u20, .slice (some ⟨kb, 0, none⟩) n n, .int .i64 (i : Int), .pointer (some ⟨kb, i, none⟩), .pointer (some ⟨D.ad i, 0, none⟩), .bool false, .tuple #[.pointer (some ⟨D.ib i, 0, none⟩), .bool true], .slice (some ⟨kb, 0, none⟩) n n, .int .i64 (i : Int), .pointer (some ⟨kb, i, none⟩), .pointer (some ⟨D.ad i, 0, none⟩), .pointer (some ⟨D.ad i, 0, none⟩), .pointer (some ⟨D.ad i, 0, none⟩), .agg #[.iface 56 (.pointer (some ⟨D.ib i, 0, none⟩)), .int .i32 (i : Int)], .tuple #[.pointer (some ⟨D.ib i, 0, none⟩), .bool true], .pointer (some ⟨D.ib i, 0, none⟩), .bool true, .int .i64 (i : Int), .int .i64 sk, .bool ((i : Int) == sk), u40, .bool true, .bool false, .bool false, .pointer (some ⟨D.ib i, 0, none⟩), .bool false, .bool false, .agg #[.int .u32 D.src, .int .u32 D.inx], .slice (some ⟨ub, 0, none⟩) n n, .int .i64 (i : Int), .pointer (some ⟨ub, i, none⟩), .int .u8 (U i : Int), .int .u8 (D.kd i : Int), .bool ((D.kd i : Int) == 1), u54, .pointer (some ⟨D.ib i, 0, none⟩), .pointer (some ⟨D.ib i, 0, none⟩), .pointer (some ⟨D.ib i, 0, none⟩), .agg #[.int .u32 D.src, .int .u32 D.inx], .agg #[.int .u32 D.src, .int .u32 D.inx], .bool false], []⟩ := by rw [← hfr]; kernel_rfl
      clear hfr
      subst hdf
      clear α
      obtain ⟨c9_0_0, c9_0_1, lt9_0, y9_0, -⟩ := hO.k2 0 rfl
      obtain ⟨c9_1_0, c9_1_1, lt9_1, y9_1, -⟩ := hO.k2 1 rfl
      obtain ⟨c9_2_0, c9_2_1, lt9_2, y9_2, -⟩ := hO.k2 2 rfl
      have HO := Lib.hid hO
      clear hO
      have fx0_0 : u.cell? ⟨D.ad i, 0, none⟩ = some (.iface 56 (.pointer (some ⟨D.ib i, 0, none⟩))) := HO.out.fcell hx 0 rfl
      have fx0_1 : u.cell? ⟨D.ad i, 1, none⟩ = some (.int .i32 (i : Int)) := HO.out.fcell hx 1 rfl
      have fx0_2 : u.cell? ⟨D.ad i, 2, none⟩ = some (.slice none 0 0) := HO.out.fcell hx 2 rfl
      have fx0_3 : u.cell? ⟨D.ad i, 3, none⟩ = some (.int .i32 0) := HO.out.fcell hx 3 rfl
      have fx0_4 : u.cell? ⟨D.ad i, 4, none⟩ = some (.int .u8 0) := HO.out.fcell hx 4 rfl
      have fx0_5 : u.cell? ⟨D.ad i, 5, none⟩ = some (.int .u8 0) := HO.out.fcell hx 5 rfl
      have fx0_6 : u.cell? ⟨D.ad i, 6, none⟩ = some (.bool false) := HO.out.fcell hx 6 rfl
      have fx0_7 : u.cell? ⟨D.ad i, 7, none⟩ = some (.bool false) := HO.out.fcell hx 7 rfl
      have fx1_0 : u.cell? ⟨D.ib i, 0, none⟩ = some (.int .u32 D.src) := HO.out.fcell hy 0 rfl
      have fx1_1 : u.cell? ⟨D.ib i, 1, none⟩ = some (.int .u32 D.inx) := HO.out.fcell hy 1 rfl
      have fx1_2 : u.cell? ⟨D.ib i, 2, none⟩ = some (.bool false) := HO.out.fcell hy 2 rfl
      have fx1_3 : u.cell? ⟨D.ib i, 3, none⟩ = some (.bool false) := HO.out.fcell hy 3 rfl
      have fx1_4 : u.cell? ⟨D.ib i, 4, none⟩ = some (.bool false) := HO.out.fcell hy 4 rfl
      go_wp2_with (first | (with_reducible refine Own.stay (fn := Try.f13) ?_) | fail)
      try with_reducible refine Own.Stay.mk ?_
      have hO := HO.out
      clear HO fx0_0 fx0_1 fx0_2 fx0_3 fx0_4 fx0_5 fx0_6 fx0_7 fx1_0 fx1_1 fx1_2 fx1_3 fx1_4 c9_0_0 c9_0_1 lt9_0 y9_0 c9_1_0 c9_1_1 lt9_1 y9_1 c9_2_0 c9_2_1 lt9_2 y9_2
      have hN : Own w0 u [row (B1_1) 27 #[.int .u32 D.src, .int .u32 D.inx], row (B1) 27 #[.int .u32 D.src, .int .u32 D.inn], row (ub) 5 (itR U n), row (kb) 36 (clR D n 0)] X := hO.sub [1, 2, 3, 4] (by decide)
      clear hO
      have hO := hN
      clear hN
      go_roundg gq
      case measure => omega
      case rel => exact ⟨i + 1, by omega, by first | rfl | simp, hO⟩
  have hlt9 : ¬ (i : Int) < (n : Int) := by omega
  obtain ⟨c9_0_0, c9_0_1, lt9_0, y9_0, -⟩ := hO.k2 0 rfl
  obtain ⟨c9_1_0, c9_1_1, lt9_1, y9_1, -⟩ := hO.k2 1 rfl
  have HO := Lib.hid hO
  clear hO
  go_wp2_with (first | (with_reducible refine Own.stay (fn := Try.f13) ?_) | fail)
  try with_reducible refine Own.Stay.mk ?_
  have hO := HO.out
  clear HO c9_0_0 c9_0_1 lt9_0 y9_0 c9_1_0 c9_1_1 lt9_1 y9_1
  refine bodyPost_ret (v := .bool true) ?_ rfl ⟨rfl, hO.sub [2, 3] (by decide)⟩
  simp [results, Try.results13, go_sem]
end Go.Proofs.Ytdbnnpoffpipjaa.Use
