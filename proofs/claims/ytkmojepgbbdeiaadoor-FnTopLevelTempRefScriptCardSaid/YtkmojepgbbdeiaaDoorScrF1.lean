/- The law on top-level temporaries, walked: one of its cases. No condition. -/
import Derived.Test.YtkmojepgbbdeiaaDoorRd2
import Derived.Test.YtkmojepgbbdeiaaDoorTop
import Derived.Test.YtkmojepgbbdeiaaDoorSt
import Derived.Test.YtkmojepgbbdeiaaDoorLoop
import Derived.Test.YtkmojepgbbdeiaaDoorNewP
import Derived.Test.YtkmojepgbbdeiaaDoorMini
import Derived.Test.YtkmojepgbbdeiaaDoorAppL
import Derived.Test.YtkmojepgbbdeiaaDoorApp
import Derived.Test.YtkmojepgbbdeiaaDoorOwnK
import Derived.Test.YtkmojepgbbdeiaaDoorOwn
import Derived.Test.YtkmojepgbbdeiaaDoorDeepCells
import Derived.Test.YtkmojepgbbdeiaaDoorRows
import Derived.Test.YtkmojepgbbdeiaaDoorLive
namespace Go.Proofs.YtkmojepgbbdeiaaDoor.Use
open Go.ChangeShapes Go.WideShapes Go.ChangeAt Go.RowKit Go.Sort Own
set_option linter.unusedVariables false
def rlaw7F1f1E (src : Int) (n : Nat) (B1 : Nat) (j : Nat) (MC : Array Value) (gb : Nat) (cg : Nat) (nd57 : Nat) (nd58 : Nat) (i : Nat) (B59 : Nat) : Nat → Rega.Atoms → Value
  | 0, α => .pointer (some ⟨B1, 0, none⟩)
  | 1, α => .pointer (some ⟨B1, 0, none⟩)
  | 2, α => .pointer (some ⟨B1, 5, none⟩)
  | 3, α => .slice (some ⟨gb, 0, none⟩) j (j + cg)
  | 4, α => .int .i64 (i : Int)
  | 5, α => .pointer (some ⟨gb, i * 2, none⟩)
  | 6, α => .agg #[.int .u32 src, .int .u32 ((n : Int) + (i : Int))]
  | 7, α => .agg #[.int .u32 src, .int .u32 ((n : Int) + (i : Int))]
  | 8, α => .bool false
  | 9, α => .bool false
  | 10, α => .slice (some ⟨nd57, 0, none⟩) j (j + nd58)
  | 11, α => .int .i64 (i : Int)
  | 12, α => .pointer (some ⟨nd57, i * 2, none⟩)
  | 13, α => .agg #[.int .u32 src, .int .u32 ((n : Int) + (i : Int))]
  | 14, α => .agg #[.int .u32 src, .int .u32 ((n : Int) + (i : Int))]
  | 15, α => .bool false
  | 16, α => .bool false
  | _, _ => undef
def rlaw7F1f1Anc : Nat → List Nat
  | 1 => [0]
  | 2 => [0, 1]
  | 3 => [0, 1, 2]
  | 5 => [0, 1, 2, 3, 4]
  | 6 => [0, 1, 2, 3, 4, 5]
  | 8 => [0, 1, 2, 3, 4, 5, 6, 7]
  | 9 => [0, 1, 2, 3, 4, 5, 6, 7, 8]
  | 10 => [0, 1, 2, 3, 4, 5, 6, 7, 8, 9]
  | 11 => [0, 1, 2, 3, 4, 5, 6, 7, 8, 9]
  | 12 => [0, 1, 2, 3, 4, 5, 6, 7, 8, 9, 10, 11]
  | 13 => [0, 1, 2, 3, 4, 5, 6, 7, 8, 9, 10, 11, 12]
  | 14 => [0, 1, 2, 3, 4, 5, 6, 7, 8, 9]
  | 15 => [0, 1, 2, 3, 4, 5, 6, 7, 8, 9, 10, 11, 12, 13, 14]
  | 16 => [0, 1, 2, 3, 4, 5, 6, 7, 8, 9, 10, 11, 12, 13, 14, 15]
  | _ => []
def rlaw7F1f1Trn : Nat → List Nat
  | _ => []
def rlaw7F1f1Cnt : List (Nat × Nat) := []
def rlaw7F1f1R (src : Int) (n : Nat) (B1 : Nat) (j : Nat) (MC : Array Value) (gb : Nat) (cg : Nat) (nd57 : Nat) (nd58 : Nat) (i : Nat) (B59 : Nat) (L9 : Nat → Bool) (α : Rega.Atoms) (ix9 : Nat) : Rw := if ix9 = 999 then row (B59) 33 #[.int .u32 src, .int .u32 ((n : Int) + (i : Int))] else if ix9 = 1999 then row (nd57) 33 (full refZ (tgJ src n j) nd58) else if ix9 = 2999 then row (B1) 38 MC else if ix9 = 3999 then row (gb) 33 (full refZ (tgJ src n j) cg) else (0, .map #[] 0)
theorem rlaw7F1f1_he (src : Int) (n : Nat) (B1 : Nat) (j : Nat) (MC : Array Value) (gb : Nat) (cg : Nat) (nd57 : Nat) (nd58 : Nat) (i : Nat) (B59 : Nat) : ∀ kk α α', (∀ j, (j % 1000 = kk ∨ j % 1000 ∈ rlaw7F1f1Anc kk) → α j = α' j) → rlaw7F1f1E src n B1 j MC gb cg nd57 nd58 i B59 kk α = rlaw7F1f1E src n B1 j MC gb cg nd57 nd58 i B59 kk α' := by
  intro kk α α' h
  match kk with
  | 0 => rfl
  | 1 => rfl
  | 2 => rfl
  | 3 => rfl
  | 4 => rfl
  | 5 => rfl
  | 6 => rfl
  | 7 => rfl
  | 8 => rfl
  | 9 => rfl
  | 10 => rfl
  | 11 => rfl
  | 12 => rfl
  | 13 => rfl
  | 14 => rfl
  | 15 => rfl
  | 16 => rfl
  | n + 17 => rfl
theorem rlaw7F1f1_st (src : Int) (n : Nat) (B1 : Nat) (j : Nat) (MC : Array Value) (gb : Nat) (cg : Nat) (nd57 : Nat) (nd58 : Nat) (i : Nat) (B59 : Nat) : Stable rlaw7F1f1Cnt 4 rlaw7F1f1Anc rlaw7F1f1Trn (rlaw7F1f1R src n B1 j MC gb cg nd57 nd58 i B59) := by
  intro k9 L9 α α' ix9 hk hcl hα hact ht
  have hp := act_places hact
  replace hp : ix9 ∈ [999, 1999, 2999, 3999] := hp
  simp only [List.mem_cons, List.not_mem_nil, or_false] at hp
  rcases hp with rfl | rfl | rfl | rfl
  · rfl
  · rfl
  · rfl
  · rfl
def law7F1Post (src : Int) (k n : Nat) (w0 : World) (X : Nat → Obj → Prop) (e : Ending) (w' : World) : Prop :=
  e = .returned (.bool true) ∧ Own w0 w' [] X
set_option maxRecDepth 100000 in
set_option maxHeartbeats 1000000 in
theorem law7F1 (src : Int) (k n : Nat) (w0 w : World) (X : Nat → Obj → Prop) (hO : Own w0 w [] X) (hk4 : k ≤ 4096) (hk0 : 0 < k) (hn4 : n ≤ 65536) (hg0 : w0.cell? ⟨0, 0, none⟩ = some (.int .u32 4294967295)) (hg1 : w0.cell? ⟨0, 1, none⟩ = some (.int .u32 4294967295)) :
    Calls Tryd.prog 3 #[.int .u32 src, .int .i64 (k : Int), .int .i64 (n : Int), .bool false] w (law7F1Post src k n w0 X) := by
  go_enter Tryd.func3, Tryd.ntmps3
  have hk9 : (k : Int) ≤ 4096 := by omega
  have hk8 : (0 : Int) ≤ k := by omega
  have hk7 : (0 : Int) < k := by omega
  have hn9 : (n : Int) ≤ 65536 := by omega
  have hn8 : (0 : Int) ≤ n := by omega
  have hn7 : IntKind.u32.wrap (n : Int) = (n : Int) := by rw [IntKind.wrap_u32]; omega
  go_wp2_with (first | (with_reducible refine Own.stay (fn := Tryd.f3) ?_) | fail)
  try with_reducible refine Own.Stay.mk ?_
  generalize hW : World.alloc _ _ = W2
  have hN : Own w0 W2 [row (w.heap.size + 1 + 1) 38 #[.pointer none, .pointer (some ⟨w.heap.size + 1, 0, none⟩), .slice none 0 0, .map none, .slice none 0 0, .slice none 0 0, .int .i32 0, .int .i32 0, .int .u32 0, .int .u32 0, .bool false, .bool false, .bool false, .bool false, .int .u8 0, .int .u8 0], row (w.heap.size + 1) 38 #[.pointer none, .pointer (some ⟨w.heap.size, 0, none⟩), .slice none 0 0, .map none, .slice none 0 0, .slice none 0 0, .int .i32 0, .int .i32 0, .int .u32 0, .int .u32 0, .bool false, .bool false, .bool false, .bool false, .int .u8 0, .int .u8 8], row (w.heap.size) 38 #[.pointer none, .pointer none, .slice none 0 0, .map none, .slice none 0 0, .slice none 0 0, .int .i32 0, .int .i32 0, .int .u32 0, .int .u32 0, .bool false, .bool false, .bool false, .bool false, .int .u8 0, .int .u8 6]] X := by
    rw [← hW]
    exact (((hO).alloc' _ (w.heap.size) (by simp)).alloc' _ (w.heap.size + 1) (by simp)).alloc' _ (w.heap.size + 1 + 1) (by simp)
  clear hW hO
  generalize w.heap.size + 1 + 1 = B1_2 at hN ⊢
  generalize w.heap.size + 1 = B1_1 at hN ⊢
  generalize w.heap.size = B1 at hN ⊢
  have hO := hN
  clear hN
  have hL := hO.apart
  have hX := hO.apartX
  have HL := Lib.hid hL
  have HX := Lib.hid hX
  clear hL hX
  have hP9 := hO.pick [] (by decide)
  have h9_hn5 : n ≤ 100000 := (by first | assumption | omega | (simp; done) | (simp; omega))
  have T9 := newPFO src n B1_2 B1 _ _ _ hP9 h9_hn5
  refine Calls.mono T9 ?_
  clear hP9 T9 h9_hn5
  rintro e uw3 ⟨nd4, nd5, rfl, hQ⟩
  have hN : Own w0 uw3 [row (nd4) 176 (newPF src n nd5 0 B1_2 B1), row (nd5) 183 (full symZ (symL (zSys n)) 0), row (B1_2) 38 #[.pointer none, .pointer (some ⟨B1_1, 0, none⟩), .slice none 0 0, .map none, .slice none 0 0, .slice none 0 0, .int .i32 0, .int .i32 0, .int .u32 0, .int .u32 0, .bool false, .bool false, .bool false, .bool false, .int .u8 0, .int .u8 0], row (B1_1) 38 #[.pointer none, .pointer (some ⟨B1, 0, none⟩), .slice none 0 0, .map none, .slice none 0 0, .slice none 0 0, .int .i32 0, .int .i32 0, .int .u32 0, .int .u32 0, .bool false, .bool false, .bool false, .bool false, .int .u8 0, .int .u8 8], row (B1) 38 #[.pointer none, .pointer none, .slice none 0 0, .map none, .slice none 0 0, .slice none 0 0, .int .i32 0, .int .i32 0, .int .u32 0, .int .u32 0, .bool false, .bool false, .bool false, .bool false, .int .u8 0, .int .u8 6]] X := hQ.back HL.out HX.out [0, 1, 2] (by decide) (by decide)
  clear hQ HL HX hO
  have hO := hN
  clear hN
  have c9_2_5 : uw3.cell? ⟨B1_2, 5, none⟩ = some (.slice none 0 0) := hO.cell 2 rfl (5) rfl
  have lt9_2 : B1_2 < uw3.heap.size := hO.lt 2 rfl
  have y9_2 : ∀ o, uw3.frozen? ⟨B1_2, o, none⟩ = false := hO.free 2 rfl
  have c9_3_5 : uw3.cell? ⟨B1_1, 5, none⟩ = some (.slice none 0 0) := hO.cell 3 rfl (5) rfl
  have lt9_3 : B1_1 < uw3.heap.size := hO.lt 3 rfl
  have y9_3 : ∀ o, uw3.frozen? ⟨B1_1, o, none⟩ = false := hO.free 3 rfl
  have c9_4_5 : uw3.cell? ⟨B1, 5, none⟩ = some (.slice none 0 0) := hO.cell 4 rfl (5) rfl
  have lt9_4 : B1 < uw3.heap.size := hO.lt 4 rfl
  have y9_4 : ∀ o, uw3.frozen? ⟨B1, o, none⟩ = false := hO.free 4 rfl
  have HO := Lib.hid hO
  clear hO
  go_wp2_with (first | (with_reducible refine Own.stay (fn := Tryd.f3) ?_) | fail)
  try with_reducible refine Own.Stay.mk ?_
  have hO := HO.out
  clear HO c9_2_5 lt9_2 y9_2 c9_3_5 lt9_3 y9_3 c9_4_5 lt9_4 y9_4
  have hN : Own w0 uw3 [row (nd4) 176 (newPF src n nd5 0 B1_2 B1), row (nd5) 183 (full symZ (symL (zSys n)) 0), row (B1) 38 #[.pointer none, .pointer none, .slice none 0 0, .map none, .slice none 0 0, .slice none 0 0, .int .i32 0, .int .i32 0, .int .u32 0, .int .u32 0, .bool false, .bool false, .bool false, .bool false, .int .u8 0, .int .u8 6], row (B1_2) 38 #[.pointer none, .pointer (some ⟨B1_1, 0, none⟩), .slice none 0 0, .map none, .slice none 0 0, .slice none 0 0, .int .i32 0, .int .i32 0, .int .u32 0, .int .u32 0, .bool false, .bool false, .bool false, .bool false, .int .u8 0, .int .u8 0], row (B1_1) 38 #[.pointer none, .pointer (some ⟨B1, 0, none⟩), .slice none 0 0, .map none, .slice none 0 0, .slice none 0 0, .int .i32 0, .int .i32 0, .int .u32 0, .int .u32 0, .bool false, .bool false, .bool false, .bool false, .int .u8 0, .int .u8 8]] X := hO.sub [0, 1, 4, 2, 3] (by decide)
  clear hO
  have hO := hN
  clear hN
  go_loopg [13] k (fun gf s13 wx => (s13 = .int .i64 0 ∧ gf = k ∧ Own w0 wx [row (nd4) 176 (newPF src n nd5 0 B1_2 B1), row (nd5) 183 (full symZ (symL (zSys n)) 0), row (B1) 38 #[.pointer none, .pointer none, .slice none 0 0, .map none, .slice none 0 0, .slice none 0 0, .int .i32 0, .int .i32 0, .int .u32 0, .int .u32 0, .bool false, .bool false, .bool false, .bool false, .int .u8 0, .int .u8 6], row (B1_2) 38 #[.pointer none, .pointer (some ⟨B1_1, 0, none⟩), .slice none 0 0, .map none, .slice none 0 0, .slice none 0 0, .int .i32 0, .int .i32 0, .int .u32 0, .int .u32 0, .bool false, .bool false, .bool false, .bool false, .int .u8 0, .int .u8 0], row (B1_1) 38 #[.pointer none, .pointer (some ⟨B1, 0, none⟩), .slice none 0 0, .map none, .slice none 0 0, .slice none 0 0, .int .i32 0, .int .i32 0, .int .u32 0, .int .u32 0, .bool false, .bool false, .bool false, .bool false, .int .u8 0, .int .u8 8]] X) ∨ ∃ (j : Nat) (PC MC : Array Value) (sb c qb cq gb cg : Nat), 0 < j ∧ s13 = .int .i64 (j : Int) ∧ j + gf = k ∧ PC[66]? = some (.int .u32 src) ∧ PC[32]? = some (.bool false) ∧ PC[106]? = some (.slice (some ⟨sb, 0, none⟩) (n + j) (n + j + c)) ∧ PC[108]? = some (.slice none 0 0) ∧ PC[187]? = some (.pointer (some ⟨B1, 0, none⟩)) ∧ PC[200]? = some (.slice (some ⟨qb, 0, none⟩) j (j + cq)) ∧ PC[288]? = some (.int .i64 (j : Int)) ∧ PC[199]? = some (.slice none 0 0) ∧ PC[287]? = some (.int .i64 0) ∧ PC[198]? = some (.slice none 0 0) ∧ MC[5]? = some (.slice (some ⟨gb, 0, none⟩) j (j + cg)) ∧ Own w0 wx [row (nd4) 176 PC, row (sb) 183 (full symZ (symL (stJ n j)) c), row (B1) 38 MC, row (qb) 185 (full trfZ (tqJ src n j) cq), row (gb) 33 (full refZ (tgJ src n j) cg), row (B1_2) 38 #[.pointer none, .pointer (some ⟨B1_1, 0, none⟩), .slice none 0 0, .map none, .slice none 0 0, .slice none 0 0, .int .i32 0, .int .i32 0, .int .u32 0, .int .u32 0, .bool false, .bool false, .bool false, .bool false, .int .u8 0, .int .u8 0], row (B1_1) 38 #[.pointer none, .pointer (some ⟨B1, 0, none⟩), .slice none 0 0, .map none, .slice none 0 0, .slice none 0 0, .int .i32 0, .int .i32 0, .int .u32 0, .int .u32 0, .bool false, .bool false, .bool false, .bool false, .int .u8 0, .int .u8 8]] X)
  case atStart => exact Or.inl ⟨rfl, rfl, hO⟩
  obtain ⟨rfl, hgk, hO⟩ | ⟨j, PC, MC, sb, c, qb, cq, gb, cg, hj0, rfl, hj, hk66, hk32, hk106, hk108, hk187, hk200, hk288, hk199, hk287, hk198, hgen, hO⟩ := hrel
  · skip
    obtain ⟨gq, rfl⟩ : ∃ gq, gk = gq + 1 := ⟨gk - 1, by omega⟩
    have htn := tn_size 0
    have htn9 : (2 : Int) ≤ ((tn 0).size : Int) := by omega
    have htp : 0 < (tn 0).size := by omega
    have htc := tn_at0 0 htp
    have c9_2_5 : wr.cell? ⟨B1, 5, none⟩ = some (.slice none 0 0) := hO.cell 2 rfl (5) rfl
    have lt9_2 : B1 < wr.heap.size := hO.lt 2 rfl
    have y9_2 : ∀ o, wr.frozen? ⟨B1, o, none⟩ = false := hO.free 2 rfl
    have c9_3_5 : wr.cell? ⟨B1_2, 5, none⟩ = some (.slice none 0 0) := hO.cell 3 rfl (5) rfl
    have lt9_3 : B1_2 < wr.heap.size := hO.lt 3 rfl
    have y9_3 : ∀ o, wr.frozen? ⟨B1_2, o, none⟩ = false := hO.free 3 rfl
    have c9_4_5 : wr.cell? ⟨B1_1, 5, none⟩ = some (.slice none 0 0) := hO.cell 4 rfl (5) rfl
    have lt9_4 : B1_1 < wr.heap.size := hO.lt 4 rfl
    have y9_4 : ∀ o, wr.frozen? ⟨B1_1, o, none⟩ = false := hO.free 4 rfl
    have HO := Lib.hid hO
    clear hO
    go_wp2_with (first | (with_reducible refine Own.stay (fn := Tryd.f3) ?_) | fail)
    try with_reducible refine Own.Stay.mk ?_
    have hO := HO.out
    clear HO c9_2_5 lt9_2 y9_2 c9_3_5 lt9_3 y9_3 c9_4_5 lt9_4 y9_4
    have hL := hO.apart
    have hX := hO.apartX
    have HL := Lib.hid hL
    have HX := Lib.hid hX
    clear hL hX
    have hP9 := hO.pick [0, 1, 2] (by decide)
    have h9_hn5 : n ≤ 100000 := (by omega)
    have T9 := stepN0 nd4 (newPF src n nd5 0 B1_2 B1) nd5 n src B1 #[.pointer none, .pointer none, .slice none 0 0, .map none, .slice none 0 0, .slice none 0 0, .int .i32 0, .int .i32 0, .int .u32 0, .int .u32 0, .bool false, .bool false, .bool false, .bool false, .int .u8 0, .int .u8 6] _ _ _ hP9 (newPF_66 _ _ _ _ _ _) (newPF_32 _ _ _ _ _ _) (newPF_106 _ _ _ _ _ _) (newPF_108 _ _ _ _ _ _) (newPF_187 _ _ _ _ _ _) (newPF_200 _ _ _ _ _ _) (newPF_288 _ _ _ _ _ _) (newPF_199 _ _ _ _ _ _) (newPF_287 _ _ _ _ _ _) (newPF_198 _ _ _ _ _ _) rfl h9_hn5 hg0 hg1
    refine Calls.mono T9 ?_
    clear hP9 T9 h9_hn5
    rintro e uw6 ⟨nd7, nd8, nd9, nd10, nd11, nd12, nd13, nd14, rfl, pr15, pr16, pr17, pr18, pr19, pr20, pr21, pr22, pr23, pr24, pr25, hQ⟩
    have hN : Own w0 uw6 [row (nd4) 176 nd7, row (nd9) 183 (full symZ (symL (stJ n 1)) nd10), row (B1) 38 nd8, row (nd11) 185 (full trfZ (tqJ src n 1) nd12), row (nd13) 33 (full refZ (tgJ src n 1) nd14), row (B1_2) 38 #[.pointer none, .pointer (some ⟨B1_1, 0, none⟩), .slice none 0 0, .map none, .slice none 0 0, .slice none 0 0, .int .i32 0, .int .i32 0, .int .u32 0, .int .u32 0, .bool false, .bool false, .bool false, .bool false, .int .u8 0, .int .u8 0], row (B1_1) 38 #[.pointer none, .pointer (some ⟨B1, 0, none⟩), .slice none 0 0, .map none, .slice none 0 0, .slice none 0 0, .int .i32 0, .int .i32 0, .int .u32 0, .int .u32 0, .bool false, .bool false, .bool false, .bool false, .int .u8 0, .int .u8 8]] X := hQ.back HL.out HX.out [3, 4] (by decide) (by decide)
    clear hQ HL HX hO
    have hO := hN
    clear hN
    have c9_5_5 : uw6.cell? ⟨B1_2, 5, none⟩ = some (.slice none 0 0) := hO.cell 5 rfl (5) rfl
    have lt9_5 : B1_2 < uw6.heap.size := hO.lt 5 rfl
    have y9_5 : ∀ o, uw6.frozen? ⟨B1_2, o, none⟩ = false := hO.free 5 rfl
    have c9_6_5 : uw6.cell? ⟨B1_1, 5, none⟩ = some (.slice none 0 0) := hO.cell 6 rfl (5) rfl
    have lt9_6 : B1_1 < uw6.heap.size := hO.lt 6 rfl
    have y9_6 : ∀ o, uw6.frozen? ⟨B1_1, o, none⟩ = false := hO.free 6 rfl
    have HO := Lib.hid hO
    clear hO
    go_wp2_with (first | (with_reducible refine Own.stay (fn := Tryd.f3) ?_) | fail)
    try with_reducible refine Own.Stay.mk ?_
    have hO := HO.out
    clear HO c9_5_5 lt9_5 y9_5 c9_6_5 lt9_6 y9_6
    generalize hW : World.alloc _ _ = W27
    have hN : Own w0 W27 [row (uw6.heap.size) 33 #[.int .u32 src, .int .u32 (n : Int)], row (nd4) 176 nd7, row (nd9) 183 (full symZ (symL (stJ n 1)) nd10), row (B1) 38 nd8, row (nd11) 185 (full trfZ (tqJ src n 1) nd12), row (nd13) 33 (full refZ (tgJ src n 1) nd14), row (B1_2) 38 #[.pointer none, .pointer (some ⟨B1_1, 0, none⟩), .slice none 0 0, .map none, .slice none 0 0, .slice none 0 0, .int .i32 0, .int .i32 0, .int .u32 0, .int .u32 0, .bool false, .bool false, .bool false, .bool false, .int .u8 0, .int .u8 0], row (B1_1) 38 #[.pointer none, .pointer (some ⟨B1, 0, none⟩), .slice none 0 0, .map none, .slice none 0 0, .slice none 0 0, .int .i32 0, .int .i32 0, .int .u32 0, .int .u32 0, .bool false, .bool false, .bool false, .bool false, .int .u8 0, .int .u8 8]] X := by
      rw [← hW]
      exact (hO).alloc' _ (uw6.heap.size) (by simp)
    clear hW hO
    generalize uw6.heap.size = B26 at hN ⊢
    have hO := hN
    clear hN
    have hL := hO.apart
    have hX := hO.apartX
    have HL := Lib.hid hL
    have HX := Lib.hid hX
    clear hL hX
    have hP9 := hO.pick [1, 2] (by decide)
    have h9_hn5 : n ≤ 100000 := (by omega)
    have T9 := symNm1 nd4 nd7 nd9 nd10 n _ _ _ hP9 pr17 h9_hn5
    refine Calls.mono T9 ?_
    clear hP9 T9 h9_hn5
    rintro e uw28 ⟨rfl, hQ⟩
    have hN : Own w0 uw28 [row (nd4) 176 nd7, row (nd9) 183 (full symZ (symL (stJ n 1)) nd10), row (B26) 33 #[.int .u32 src, .int .u32 (n : Int)], row (B1) 38 nd8, row (nd11) 185 (full trfZ (tqJ src n 1) nd12), row (nd13) 33 (full refZ (tgJ src n 1) nd14), row (B1_2) 38 #[.pointer none, .pointer (some ⟨B1_1, 0, none⟩), .slice none 0 0, .map none, .slice none 0 0, .slice none 0 0, .int .i32 0, .int .i32 0, .int .u32 0, .int .u32 0, .bool false, .bool false, .bool false, .bool false, .int .u8 0, .int .u8 0], row (B1_1) 38 #[.pointer none, .pointer (some ⟨B1, 0, none⟩), .slice none 0 0, .map none, .slice none 0 0, .slice none 0 0, .int .i32 0, .int .i32 0, .int .u32 0, .int .u32 0, .bool false, .bool false, .bool false, .bool false, .int .u8 0, .int .u8 8]] X := hQ.back HL.out HX.out [0, 3, 4, 5, 6, 7] (by decide) (by decide)
    clear hQ HL HX hO
    have hO := hN
    clear hN
    obtain ⟨c9_2_0, c9_2_1, lt9_2, y9_2, -⟩ := hO.k2 2 rfl
    have c9_6_5 : uw28.cell? ⟨B1_2, 5, none⟩ = some (.slice none 0 0) := hO.cell 6 rfl (5) rfl
    have lt9_6 : B1_2 < uw28.heap.size := hO.lt 6 rfl
    have y9_6 : ∀ o, uw28.frozen? ⟨B1_2, o, none⟩ = false := hO.free 6 rfl
    have c9_7_5 : uw28.cell? ⟨B1_1, 5, none⟩ = some (.slice none 0 0) := hO.cell 7 rfl (5) rfl
    have lt9_7 : B1_1 < uw28.heap.size := hO.lt 7 rfl
    have y9_7 : ∀ o, uw28.frozen? ⟨B1_1, o, none⟩ = false := hO.free 7 rfl
    have HO := Lib.hid hO
    clear hO
    go_wp2_with (first | (with_reducible refine Own.stay (fn := Tryd.f3) ?_) | fail)
    try with_reducible refine Own.Stay.mk ?_
    have hO := HO.out
    clear HO c9_2_0 c9_2_1 lt9_2 y9_2 c9_6_5 lt9_6 y9_6 c9_7_5 lt9_7 y9_7
    have hL := hO.apart
    have hX := hO.apartX
    have HL := Lib.hid hL
    have HX := Lib.hid hX
    clear hL hX
    have hP9 := hO.pick [0, 1] (by decide)
    have h9_hn5 : n ≤ 100000 := (by omega)
    have T9 := symKd1 nd4 nd7 nd9 nd10 n _ _ _ hP9 pr17 h9_hn5
    refine Calls.mono T9 ?_
    clear hP9 T9 h9_hn5
    rintro e uw29 ⟨rfl, hQ⟩
    have hN : Own w0 uw29 [row (nd4) 176 nd7, row (nd9) 183 (full symZ (symL (stJ n 1)) nd10), row (B26) 33 #[.int .u32 src, .int .u32 (n : Int)], row (B1) 38 nd8, row (nd11) 185 (full trfZ (tqJ src n 1) nd12), row (nd13) 33 (full refZ (tgJ src n 1) nd14), row (B1_2) 38 #[.pointer none, .pointer (some ⟨B1_1, 0, none⟩), .slice none 0 0, .map none, .slice none 0 0, .slice none 0 0, .int .i32 0, .int .i32 0, .int .u32 0, .int .u32 0, .bool false, .bool false, .bool false, .bool false, .int .u8 0, .int .u8 0], row (B1_1) 38 #[.pointer none, .pointer (some ⟨B1, 0, none⟩), .slice none 0 0, .map none, .slice none 0 0, .slice none 0 0, .int .i32 0, .int .i32 0, .int .u32 0, .int .u32 0, .bool false, .bool false, .bool false, .bool false, .int .u8 0, .int .u8 8]] X := hQ.back HL.out HX.out [2, 3, 4, 5, 6, 7] (by decide) (by decide)
    clear hQ HL HX hO
    have hO := hN
    clear hN
    obtain ⟨c9_2_0, c9_2_1, lt9_2, y9_2, -⟩ := hO.k2 2 rfl
    have c9_6_5 : uw29.cell? ⟨B1_2, 5, none⟩ = some (.slice none 0 0) := hO.cell 6 rfl (5) rfl
    have lt9_6 : B1_2 < uw29.heap.size := hO.lt 6 rfl
    have y9_6 : ∀ o, uw29.frozen? ⟨B1_2, o, none⟩ = false := hO.free 6 rfl
    have c9_7_5 : uw29.cell? ⟨B1_1, 5, none⟩ = some (.slice none 0 0) := hO.cell 7 rfl (5) rfl
    have lt9_7 : B1_1 < uw29.heap.size := hO.lt 7 rfl
    have y9_7 : ∀ o, uw29.frozen? ⟨B1_1, o, none⟩ = false := hO.free 7 rfl
    have HO := Lib.hid hO
    clear hO
    go_wp2_with (first | (with_reducible refine Own.stay (fn := Tryd.f3) ?_) | fail)
    try with_reducible refine Own.Stay.mk ?_
    have hO := HO.out
    clear HO c9_2_0 c9_2_1 lt9_2 y9_2 c9_6_5 lt9_6 y9_6 c9_7_5 lt9_7 y9_7
    have hN : Own w0 uw29 [row (nd4) 176 nd7, row (nd9) 183 (full symZ (symL (stJ n 1)) nd10), row (B1) 38 nd8, row (nd11) 185 (full trfZ (tqJ src n 1) nd12), row (nd13) 33 (full refZ (tgJ src n 1) nd14), row (B1_2) 38 #[.pointer none, .pointer (some ⟨B1_1, 0, none⟩), .slice none 0 0, .map none, .slice none 0 0, .slice none 0 0, .int .i32 0, .int .i32 0, .int .u32 0, .int .u32 0, .bool false, .bool false, .bool false, .bool false, .int .u8 0, .int .u8 0], row (B1_1) 38 #[.pointer none, .pointer (some ⟨B1, 0, none⟩), .slice none 0 0, .map none, .slice none 0 0, .slice none 0 0, .int .i32 0, .int .i32 0, .int .u32 0, .int .u32 0, .bool false, .bool false, .bool false, .bool false, .int .u8 0, .int .u8 8]] X := hO.sub [0, 1, 3, 4, 5, 6, 7] (by decide)
    clear hO
    have hO := hN
    clear hN
    go_roundg gq
    case measure => omega
    case rel => exact Or.inr ⟨1, nd7, nd8, nd9, nd10, nd11, nd12, nd13, nd14, by omega, by first | rfl | simp, by omega, pr15, pr16, pr17, pr18, pr19, pr20, pr21, pr22, pr23, pr24, pr25, hO⟩
  have hjk : j ≤ k := by omega
  by_cases hlt : j < k
  · skip
    obtain ⟨gq, rfl⟩ : ∃ gq, gk = gq + 1 := ⟨gk - 1, by omega⟩
    have hlt9 : (j : Int) < k := by omega
    have hj8 : (0 : Int) ≤ j := by omega
    have hnj : IntKind.u32.wrap ((n : Int) + (j : Int)) = (n : Int) + (j : Int) := by rw [IntKind.wrap_u32]; omega
    have htn := tn_size j
    have htn9 : (2 : Int) ≤ ((tn j).size : Int) := by omega
    have htp : 0 < (tn j).size := by omega
    have htc := tn_at0 j htp
    have c9_5_5 : wr.cell? ⟨B1_2, 5, none⟩ = some (.slice none 0 0) := hO.cell 5 rfl (5) rfl
    have lt9_5 : B1_2 < wr.heap.size := hO.lt 5 rfl
    have y9_5 : ∀ o, wr.frozen? ⟨B1_2, o, none⟩ = false := hO.free 5 rfl
    have c9_6_5 : wr.cell? ⟨B1_1, 5, none⟩ = some (.slice none 0 0) := hO.cell 6 rfl (5) rfl
    have lt9_6 : B1_1 < wr.heap.size := hO.lt 6 rfl
    have y9_6 : ∀ o, wr.frozen? ⟨B1_1, o, none⟩ = false := hO.free 6 rfl
    have HO := Lib.hid hO
    clear hO
    go_wp2_with (first | (with_reducible refine Own.stay (fn := Tryd.f3) ?_) | fail)
    try with_reducible refine Own.Stay.mk ?_
    have hO := HO.out
    clear HO c9_5_5 lt9_5 y9_5 c9_6_5 lt9_6 y9_6
    have hL := hO.apart
    have hX := hO.apartX
    have HL := Lib.hid hL
    have HX := Lib.hid hX
    clear hL hX
    have hP9 := hO.pick [0, 1, 2, 3, 4] (by decide)
    have h9_hn5 : n ≤ 100000 := (by omega)
    have h9_hj5 : j ≤ 100000 := (by omega)
    have T9 := stepN1 nd4 PC sb c n j src B1 MC qb cq gb cg _ _ _ hP9 hk66 hk32 hk106 hk108 hk187 hk200 hk288 hk199 hk287 hk198 hgen h9_hn5 h9_hj5 hg0 hg1
    refine Calls.mono T9 ?_
    clear hP9 T9 h9_hn5 h9_hj5
    rintro e uw30 ⟨nd31, nd32, nd33, nd34, nd35, nd36, nd37, nd38, rfl, pr39, pr40, pr41, pr42, pr43, pr44, pr45, pr46, pr47, pr48, pr49, hQ⟩
    have hN : Own w0 uw30 [row (nd4) 176 nd31, row (nd33) 183 (full symZ (symL (stJ n (j + 1))) nd34), row (B1) 38 nd32, row (nd35) 185 (full trfZ (tqJ src n (j + 1)) nd36), row (nd37) 33 (full refZ (tgJ src n (j + 1)) nd38), row (B1_2) 38 #[.pointer none, .pointer (some ⟨B1_1, 0, none⟩), .slice none 0 0, .map none, .slice none 0 0, .slice none 0 0, .int .i32 0, .int .i32 0, .int .u32 0, .int .u32 0, .bool false, .bool false, .bool false, .bool false, .int .u8 0, .int .u8 0], row (B1_1) 38 #[.pointer none, .pointer (some ⟨B1, 0, none⟩), .slice none 0 0, .map none, .slice none 0 0, .slice none 0 0, .int .i32 0, .int .i32 0, .int .u32 0, .int .u32 0, .bool false, .bool false, .bool false, .bool false, .int .u8 0, .int .u8 8]] X := hQ.back HL.out HX.out [5, 6] (by decide) (by decide)
    clear hQ HL HX hO
    have hO := hN
    clear hN
    have c9_5_5 : uw30.cell? ⟨B1_2, 5, none⟩ = some (.slice none 0 0) := hO.cell 5 rfl (5) rfl
    have lt9_5 : B1_2 < uw30.heap.size := hO.lt 5 rfl
    have y9_5 : ∀ o, uw30.frozen? ⟨B1_2, o, none⟩ = false := hO.free 5 rfl
    have c9_6_5 : uw30.cell? ⟨B1_1, 5, none⟩ = some (.slice none 0 0) := hO.cell 6 rfl (5) rfl
    have lt9_6 : B1_1 < uw30.heap.size := hO.lt 6 rfl
    have y9_6 : ∀ o, uw30.frozen? ⟨B1_1, o, none⟩ = false := hO.free 6 rfl
    have HO := Lib.hid hO
    clear hO
    go_wp2_with (first | (with_reducible refine Own.stay (fn := Tryd.f3) ?_) | fail)
    try with_reducible refine Own.Stay.mk ?_
    have hO := HO.out
    clear HO c9_5_5 lt9_5 y9_5 c9_6_5 lt9_6 y9_6
    generalize hW : World.alloc _ _ = W51
    have hN : Own w0 W51 [row (uw30.heap.size) 33 #[.int .u32 src, .int .u32 ((n : Int) + (j : Int))], row (nd4) 176 nd31, row (nd33) 183 (full symZ (symL (stJ n (j + 1))) nd34), row (B1) 38 nd32, row (nd35) 185 (full trfZ (tqJ src n (j + 1)) nd36), row (nd37) 33 (full refZ (tgJ src n (j + 1)) nd38), row (B1_2) 38 #[.pointer none, .pointer (some ⟨B1_1, 0, none⟩), .slice none 0 0, .map none, .slice none 0 0, .slice none 0 0, .int .i32 0, .int .i32 0, .int .u32 0, .int .u32 0, .bool false, .bool false, .bool false, .bool false, .int .u8 0, .int .u8 0], row (B1_1) 38 #[.pointer none, .pointer (some ⟨B1, 0, none⟩), .slice none 0 0, .map none, .slice none 0 0, .slice none 0 0, .int .i32 0, .int .i32 0, .int .u32 0, .int .u32 0, .bool false, .bool false, .bool false, .bool false, .int .u8 0, .int .u8 8]] X := by
      rw [← hW]
      exact (hO).alloc' _ (uw30.heap.size) (by simp)
    clear hW hO
    generalize uw30.heap.size = B50 at hN ⊢
    have hO := hN
    clear hN
    have hL := hO.apart
    have hX := hO.apartX
    have HL := Lib.hid hL
    have HX := Lib.hid hX
    clear hL hX
    have hP9 := hO.pick [1, 2] (by decide)
    have h9_hn5 : n ≤ 100000 := (by omega)
    have h9_hj5 : j ≤ 100000 := (by omega)
    have T9 := symNmJ nd4 nd31 nd33 nd34 n j _ _ _ hP9 pr41 h9_hn5 h9_hj5
    refine Calls.mono T9 ?_
    clear hP9 T9 h9_hn5 h9_hj5
    rintro e uw52 ⟨rfl, hQ⟩
    have hN : Own w0 uw52 [row (nd4) 176 nd31, row (nd33) 183 (full symZ (symL (stJ n (j + 1))) nd34), row (B50) 33 #[.int .u32 src, .int .u32 ((n : Int) + (j : Int))], row (B1) 38 nd32, row (nd35) 185 (full trfZ (tqJ src n (j + 1)) nd36), row (nd37) 33 (full refZ (tgJ src n (j + 1)) nd38), row (B1_2) 38 #[.pointer none, .pointer (some ⟨B1_1, 0, none⟩), .slice none 0 0, .map none, .slice none 0 0, .slice none 0 0, .int .i32 0, .int .i32 0, .int .u32 0, .int .u32 0, .bool false, .bool false, .bool false, .bool false, .int .u8 0, .int .u8 0], row (B1_1) 38 #[.pointer none, .pointer (some ⟨B1, 0, none⟩), .slice none 0 0, .map none, .slice none 0 0, .slice none 0 0, .int .i32 0, .int .i32 0, .int .u32 0, .int .u32 0, .bool false, .bool false, .bool false, .bool false, .int .u8 0, .int .u8 8]] X := hQ.back HL.out HX.out [0, 3, 4, 5, 6, 7] (by decide) (by decide)
    clear hQ HL HX hO
    have hO := hN
    clear hN
    obtain ⟨c9_2_0, c9_2_1, lt9_2, y9_2, -⟩ := hO.k2 2 rfl
    have c9_6_5 : uw52.cell? ⟨B1_2, 5, none⟩ = some (.slice none 0 0) := hO.cell 6 rfl (5) rfl
    have lt9_6 : B1_2 < uw52.heap.size := hO.lt 6 rfl
    have y9_6 : ∀ o, uw52.frozen? ⟨B1_2, o, none⟩ = false := hO.free 6 rfl
    have c9_7_5 : uw52.cell? ⟨B1_1, 5, none⟩ = some (.slice none 0 0) := hO.cell 7 rfl (5) rfl
    have lt9_7 : B1_1 < uw52.heap.size := hO.lt 7 rfl
    have y9_7 : ∀ o, uw52.frozen? ⟨B1_1, o, none⟩ = false := hO.free 7 rfl
    have HO := Lib.hid hO
    clear hO
    go_wp2_with (first | (with_reducible refine Own.stay (fn := Tryd.f3) ?_) | fail)
    try with_reducible refine Own.Stay.mk ?_
    have hO := HO.out
    clear HO c9_2_0 c9_2_1 lt9_2 y9_2 c9_6_5 lt9_6 y9_6 c9_7_5 lt9_7 y9_7
    have hL := hO.apart
    have hX := hO.apartX
    have HL := Lib.hid hL
    have HX := Lib.hid hX
    clear hL hX
    have hP9 := hO.pick [0, 1] (by decide)
    have h9_hn5 : n ≤ 100000 := (by omega)
    have h9_hj5 : j ≤ 100000 := (by omega)
    have T9 := symKdJ nd4 nd31 nd33 nd34 n j _ _ _ hP9 pr41 h9_hn5 h9_hj5
    refine Calls.mono T9 ?_
    clear hP9 T9 h9_hn5 h9_hj5
    rintro e uw53 ⟨rfl, hQ⟩
    have hN : Own w0 uw53 [row (nd4) 176 nd31, row (nd33) 183 (full symZ (symL (stJ n (j + 1))) nd34), row (B50) 33 #[.int .u32 src, .int .u32 ((n : Int) + (j : Int))], row (B1) 38 nd32, row (nd35) 185 (full trfZ (tqJ src n (j + 1)) nd36), row (nd37) 33 (full refZ (tgJ src n (j + 1)) nd38), row (B1_2) 38 #[.pointer none, .pointer (some ⟨B1_1, 0, none⟩), .slice none 0 0, .map none, .slice none 0 0, .slice none 0 0, .int .i32 0, .int .i32 0, .int .u32 0, .int .u32 0, .bool false, .bool false, .bool false, .bool false, .int .u8 0, .int .u8 0], row (B1_1) 38 #[.pointer none, .pointer (some ⟨B1, 0, none⟩), .slice none 0 0, .map none, .slice none 0 0, .slice none 0 0, .int .i32 0, .int .i32 0, .int .u32 0, .int .u32 0, .bool false, .bool false, .bool false, .bool false, .int .u8 0, .int .u8 8]] X := hQ.back HL.out HX.out [2, 3, 4, 5, 6, 7] (by decide) (by decide)
    clear hQ HL HX hO
    have hO := hN
    clear hN
    obtain ⟨c9_2_0, c9_2_1, lt9_2, y9_2, -⟩ := hO.k2 2 rfl
    have c9_6_5 : uw53.cell? ⟨B1_2, 5, none⟩ = some (.slice none 0 0) := hO.cell 6 rfl (5) rfl
    have lt9_6 : B1_2 < uw53.heap.size := hO.lt 6 rfl
    have y9_6 : ∀ o, uw53.frozen? ⟨B1_2, o, none⟩ = false := hO.free 6 rfl
    have c9_7_5 : uw53.cell? ⟨B1_1, 5, none⟩ = some (.slice none 0 0) := hO.cell 7 rfl (5) rfl
    have lt9_7 : B1_1 < uw53.heap.size := hO.lt 7 rfl
    have y9_7 : ∀ o, uw53.frozen? ⟨B1_1, o, none⟩ = false := hO.free 7 rfl
    have HO := Lib.hid hO
    clear hO
    go_wp2_with (first | (with_reducible refine Own.stay (fn := Tryd.f3) ?_) | fail)
    try with_reducible refine Own.Stay.mk ?_
    have hO := HO.out
    clear HO c9_2_0 c9_2_1 lt9_2 y9_2 c9_6_5 lt9_6 y9_6 c9_7_5 lt9_7 y9_7
    have hN : Own w0 uw53 [row (nd4) 176 nd31, row (nd33) 183 (full symZ (symL (stJ n (j + 1))) nd34), row (B1) 38 nd32, row (nd35) 185 (full trfZ (tqJ src n (j + 1)) nd36), row (nd37) 33 (full refZ (tgJ src n (j + 1)) nd38), row (B1_2) 38 #[.pointer none, .pointer (some ⟨B1_1, 0, none⟩), .slice none 0 0, .map none, .slice none 0 0, .slice none 0 0, .int .i32 0, .int .i32 0, .int .u32 0, .int .u32 0, .bool false, .bool false, .bool false, .bool false, .int .u8 0, .int .u8 0], row (B1_1) 38 #[.pointer none, .pointer (some ⟨B1, 0, none⟩), .slice none 0 0, .map none, .slice none 0 0, .slice none 0 0, .int .i32 0, .int .i32 0, .int .u32 0, .int .u32 0, .bool false, .bool false, .bool false, .bool false, .int .u8 0, .int .u8 8]] X := hO.sub [0, 1, 3, 4, 5, 6, 7] (by decide)
    clear hO
    have hO := hN
    clear hN
    go_roundg gq
    case measure => omega
    case rel => exact Or.inr ⟨j + 1, nd31, nd32, nd33, nd34, nd35, nd36, nd37, nd38, by omega, by first | rfl | simp, by omega, pr39, pr40, pr41, pr42, pr43, pr44, pr45, pr46, pr47, pr48, pr49, hO⟩
  obtain rfl : j = k := by omega
  have hlt9 : ¬ (j : Int) < j := by omega
  clear hlt hjk hj
  have c9_5_5 : wr.cell? ⟨B1_2, 5, none⟩ = some (.slice none 0 0) := hO.cell 5 rfl (5) rfl
  have lt9_5 : B1_2 < wr.heap.size := hO.lt 5 rfl
  have y9_5 : ∀ o, wr.frozen? ⟨B1_2, o, none⟩ = false := hO.free 5 rfl
  have c9_6_5 : wr.cell? ⟨B1_1, 5, none⟩ = some (.slice none 0 0) := hO.cell 6 rfl (5) rfl
  have lt9_6 : B1_1 < wr.heap.size := hO.lt 6 rfl
  have y9_6 : ∀ o, wr.frozen? ⟨B1_1, o, none⟩ = false := hO.free 6 rfl
  have HO := Lib.hid hO
  clear hO
  go_wp2_with (first | (with_reducible refine Own.stay (fn := Tryd.f3) ?_) | fail)
  try with_reducible refine Own.Stay.mk ?_
  have hO := HO.out
  clear HO c9_5_5 lt9_5 y9_5 c9_6_5 lt9_6 y9_6
  have hL := hO.apart
  have hX := hO.apartX
  have HL := Lib.hid hL
  have HX := Lib.hid hX
  clear hL hX
  have hP9 := hO.pick [0] (by decide)
  have T9 := symCntJ nd4 PC sb c n j _ _ _ hP9 hk106
  refine Calls.mono T9 ?_
  clear hP9 T9
  rintro e uw54 ⟨rfl, hQ⟩
  have hN : Own w0 uw54 [row (nd4) 176 PC, row (sb) 183 (full symZ (symL (stJ n j)) c), row (B1) 38 MC, row (qb) 185 (full trfZ (tqJ src n j) cq), row (gb) 33 (full refZ (tgJ src n j) cg), row (B1_2) 38 #[.pointer none, .pointer (some ⟨B1_1, 0, none⟩), .slice none 0 0, .map none, .slice none 0 0, .slice none 0 0, .int .i32 0, .int .i32 0, .int .u32 0, .int .u32 0, .bool false, .bool false, .bool false, .bool false, .int .u8 0, .int .u8 0], row (B1_1) 38 #[.pointer none, .pointer (some ⟨B1, 0, none⟩), .slice none 0 0, .map none, .slice none 0 0, .slice none 0 0, .int .i32 0, .int .i32 0, .int .u32 0, .int .u32 0, .bool false, .bool false, .bool false, .bool false, .int .u8 0, .int .u8 8]] X := hQ.back HL.out HX.out [1, 2, 3, 4, 5, 6] (by decide) (by decide)
  clear hQ HL HX hO
  have hO := hN
  clear hN
  have c9_5_5 : uw54.cell? ⟨B1_2, 5, none⟩ = some (.slice none 0 0) := hO.cell 5 rfl (5) rfl
  have lt9_5 : B1_2 < uw54.heap.size := hO.lt 5 rfl
  have y9_5 : ∀ o, uw54.frozen? ⟨B1_2, o, none⟩ = false := hO.free 5 rfl
  have c9_6_5 : uw54.cell? ⟨B1_1, 5, none⟩ = some (.slice none 0 0) := hO.cell 6 rfl (5) rfl
  have lt9_6 : B1_1 < uw54.heap.size := hO.lt 6 rfl
  have y9_6 : ∀ o, uw54.frozen? ⟨B1_1, o, none⟩ = false := hO.free 6 rfl
  have HO := Lib.hid hO
  clear hO
  go_wp2_with (first | (with_reducible refine Own.stay (fn := Tryd.f3) ?_) | fail)
  try with_reducible refine Own.Stay.mk ?_
  have hO := HO.out
  clear HO c9_5_5 lt9_5 y9_5 c9_6_5 lt9_6 y9_6
  have hL := hO.apart
  have hX := hO.apartX
  have HL := Lib.hid hL
  have HX := Lib.hid hX
  clear hL hX
  have hP9 := hO.pick [0] (by decide)
  have T9 := tsLen0 nd4 PC _ _ _ hP9 hk108
  refine Calls.mono T9 ?_
  clear hP9 T9
  rintro e uw55 ⟨rfl, hQ⟩
  have hN : Own w0 uw55 [row (nd4) 176 PC, row (sb) 183 (full symZ (symL (stJ n j)) c), row (B1) 38 MC, row (qb) 185 (full trfZ (tqJ src n j) cq), row (gb) 33 (full refZ (tgJ src n j) cg), row (B1_2) 38 #[.pointer none, .pointer (some ⟨B1_1, 0, none⟩), .slice none 0 0, .map none, .slice none 0 0, .slice none 0 0, .int .i32 0, .int .i32 0, .int .u32 0, .int .u32 0, .bool false, .bool false, .bool false, .bool false, .int .u8 0, .int .u8 0], row (B1_1) 38 #[.pointer none, .pointer (some ⟨B1, 0, none⟩), .slice none 0 0, .map none, .slice none 0 0, .slice none 0 0, .int .i32 0, .int .i32 0, .int .u32 0, .int .u32 0, .bool false, .bool false, .bool false, .bool false, .int .u8 0, .int .u8 8]] X := hQ.back HL.out HX.out [1, 2, 3, 4, 5, 6] (by decide) (by decide)
  clear hQ HL HX hO
  have hO := hN
  clear hN
  obtain ⟨ix9, hix9, hax9, hjx9⟩ := hO.ix
  have ix9_0 : ix9 nd4 = 0 := hjx9 0 _ _ rfl
  have ix9_1 : ix9 sb = 1 := hjx9 1 _ _ rfl
  have ix9_2 : ix9 B1 = 2 := hjx9 2 _ _ rfl
  have ix9_3 : ix9 qb = 3 := hjx9 3 _ _ rfl
  have ix9_4 : ix9 gb = 4 := hjx9 4 _ _ rfl
  have ix9_5 : ix9 B1_2 = 5 := hjx9 5 _ _ rfl
  have ix9_6 : ix9 B1_1 = 6 := hjx9 6 _ _ rfl
  clear hjx9
  have c9_0_32 : uw55.cell? ⟨nd4, 32, none⟩ = some (.bool false) := hO.cell 0 rfl (32) (hk32)
  have c9_0_66 : uw55.cell? ⟨nd4, 66, none⟩ = some (.int .u32 src) := hO.cell 0 rfl (66) (hk66)
  have c9_0_106 : uw55.cell? ⟨nd4, 106, none⟩ = some (.slice (some ⟨sb, 0, none⟩) (n + j) (n + j + c)) := hO.cell 0 rfl (106) (hk106)
  have c9_0_108 : uw55.cell? ⟨nd4, 108, none⟩ = some (.slice none 0 0) := hO.cell 0 rfl (108) (hk108)
  have c9_0_187 : uw55.cell? ⟨nd4, 187, none⟩ = some (.pointer (some ⟨B1, 0, none⟩)) := hO.cell 0 rfl (187) (hk187)
  have c9_0_198 : uw55.cell? ⟨nd4, 198, none⟩ = some (.slice none 0 0) := hO.cell 0 rfl (198) (hk198)
  have c9_0_199 : uw55.cell? ⟨nd4, 199, none⟩ = some (.slice none 0 0) := hO.cell 0 rfl (199) (hk199)
  have c9_0_200 : uw55.cell? ⟨nd4, 200, none⟩ = some (.slice (some ⟨qb, 0, none⟩) j (j + cq)) := hO.cell 0 rfl (200) (hk200)
  have c9_0_287 : uw55.cell? ⟨nd4, 287, none⟩ = some (.int .i64 0) := hO.cell 0 rfl (287) (hk287)
  have c9_0_288 : uw55.cell? ⟨nd4, 288, none⟩ = some (.int .i64 (j : Int)) := hO.cell 0 rfl (288) (hk288)
  have lt9_0 : nd4 < uw55.heap.size := hO.lt 0 rfl
  have y9_0 : ∀ o, uw55.frozen? ⟨nd4, o, none⟩ = false := hO.free 0 rfl
  have pl9_2 : Base.plainAt uw55 (B1) = true := hO.plain 2 rfl
  have c9_2_5 : uw55.cell? ⟨B1, 5, none⟩ = some (.slice (some ⟨gb, 0, none⟩) j (j + cg)) := hO.cell 2 rfl (5) (hgen)
  have lt9_2 : B1 < uw55.heap.size := hO.lt 2 rfl
  have y9_2 : ∀ o, uw55.frozen? ⟨B1, o, none⟩ = false := hO.free 2 rfl
  have pl9_5 : Base.plainAt uw55 (B1_2) = true := hO.plain 5 rfl
  have c9_5_5 : uw55.cell? ⟨B1_2, 5, none⟩ = some (.slice none 0 0) := hO.cell 5 rfl (5) rfl
  have lt9_5 : B1_2 < uw55.heap.size := hO.lt 5 rfl
  have y9_5 : ∀ o, uw55.frozen? ⟨B1_2, o, none⟩ = false := hO.free 5 rfl
  have pl9_6 : Base.plainAt uw55 (B1_1) = true := hO.plain 6 rfl
  have c9_6_5 : uw55.cell? ⟨B1_1, 5, none⟩ = some (.slice none 0 0) := hO.cell 6 rfl (5) rfl
  have lt9_6 : B1_1 < uw55.heap.size := hO.lt 6 rfl
  have y9_6 : ∀ o, uw55.frozen? ⟨B1_1, o, none⟩ = false := hO.free 6 rfl
  have HO := Lib.hid hO
  clear hO
  go_wp2_with (first | (with_reducible refine Own.stay (fn := Tryd.f3) ?_) | fail)
  try with_reducible refine Own.Stay.mk ?_
  have hO := HO.out
  clear HO hix9 hax9 ix9_0 ix9_1 ix9_2 ix9_3 ix9_4 ix9_5 ix9_6 ix9 c9_0_32 c9_0_66 c9_0_106 c9_0_108 c9_0_187 c9_0_198 c9_0_199 c9_0_200 c9_0_287 c9_0_288 lt9_0 y9_0 pl9_2 c9_2_5 lt9_2 y9_2 pl9_5 c9_5_5 lt9_5 y9_5 pl9_6 c9_6_5 lt9_6 y9_6
  have hL := hO.apart
  have hX := hO.apartX
  have HL := Lib.hid hL
  have HX := Lib.hid hX
  clear hL hX
  have hP9 := hO.pick [0, 3] (by decide)
  have h9_hj5 : j ≤ 100000 := (by omega)
  have T9 := topRefs nd4 PC n j src qb cq _ _ _ hP9 hk200 h9_hj5
  refine Calls.mono T9 ?_
  clear hP9 T9 h9_hj5
  rintro e uw56 ⟨nd57, nd58, rfl, hQ⟩
  have hN : Own w0 uw56 [row (nd4) 176 PC, row (qb) 185 (full trfZ (tqJ src n j) cq), row (nd57) 33 (full refZ (tgJ src n j) nd58), row (sb) 183 (full symZ (symL (stJ n j)) c), row (B1) 38 MC, row (gb) 33 (full refZ (tgJ src n j) cg), row (B1_2) 38 #[.pointer none, .pointer (some ⟨B1_1, 0, none⟩), .slice none 0 0, .map none, .slice none 0 0, .slice none 0 0, .int .i32 0, .int .i32 0, .int .u32 0, .int .u32 0, .bool false, .bool false, .bool false, .bool false, .int .u8 0, .int .u8 0], row (B1_1) 38 #[.pointer none, .pointer (some ⟨B1, 0, none⟩), .slice none 0 0, .map none, .slice none 0 0, .slice none 0 0, .int .i32 0, .int .i32 0, .int .u32 0, .int .u32 0, .bool false, .bool false, .bool false, .bool false, .int .u8 0, .int .u8 8]] X := hQ.back HL.out HX.out [1, 2, 4, 5, 6] (by decide) (by decide)
  clear hQ HL HX hO
  have hO := hN
  clear hN
  have c9_6_5 : uw56.cell? ⟨B1_2, 5, none⟩ = some (.slice none 0 0) := hO.cell 6 rfl (5) rfl
  have lt9_6 : B1_2 < uw56.heap.size := hO.lt 6 rfl
  have y9_6 : ∀ o, uw56.frozen? ⟨B1_2, o, none⟩ = false := hO.free 6 rfl
  have c9_7_5 : uw56.cell? ⟨B1_1, 5, none⟩ = some (.slice none 0 0) := hO.cell 7 rfl (5) rfl
  have lt9_7 : B1_1 < uw56.heap.size := hO.lt 7 rfl
  have y9_7 : ∀ o, uw56.frozen? ⟨B1_1, o, none⟩ = false := hO.free 7 rfl
  have HO := Lib.hid hO
  clear hO
  go_wp2_with (first | (with_reducible refine Own.stay (fn := Tryd.f3) ?_) | fail)
  try with_reducible refine Own.Stay.mk ?_
  have hO := HO.out
  clear HO c9_6_5 lt9_6 y9_6 c9_7_5 lt9_7 y9_7
  go_loopg [18] j (fun gf s18 wx => ∃ i : Nat, s18 = .int .i64 (i : Int) ∧ i + gf = j ∧ Own w0 wx [row (nd4) 176 PC, row (qb) 185 (full trfZ (tqJ src n j) cq), row (nd57) 33 (full refZ (tgJ src n j) nd58), row (sb) 183 (full symZ (symL (stJ n j)) c), row (B1) 38 MC, row (gb) 33 (full refZ (tgJ src n j) cg), row (B1_2) 38 #[.pointer none, .pointer (some ⟨B1_1, 0, none⟩), .slice none 0 0, .map none, .slice none 0 0, .slice none 0 0, .int .i32 0, .int .i32 0, .int .u32 0, .int .u32 0, .bool false, .bool false, .bool false, .bool false, .int .u8 0, .int .u8 0], row (B1_1) 38 #[.pointer none, .pointer (some ⟨B1, 0, none⟩), .slice none 0 0, .map none, .slice none 0 0, .slice none 0 0, .int .i32 0, .int .i32 0, .int .u32 0, .int .u32 0, .bool false, .bool false, .bool false, .bool false, .int .u8 0, .int .u8 8]] X)
  case atStart => exact ⟨0, rfl, by omega, hO⟩
  obtain ⟨i, rfl, hij, hO⟩ := hrel
  by_cases hlt : i < j
  · skip
    obtain ⟨gq, rfl⟩ : ∃ gq, gk = gq + 1 := ⟨gk - 1, by omega⟩
    have hlt8 : (i : Int) < (j : Int) := by omega
    have hi8 : (0 : Int) ≤ (i : Int) := by omega
    have hni : IntKind.u32.wrap ((n : Int) + (i : Int)) = (n : Int) + (i : Int) := by rw [IntKind.wrap_u32]; omega
    have c9_6_5 : wr.cell? ⟨B1_2, 5, none⟩ = some (.slice none 0 0) := hO.cell 6 rfl (5) rfl
    have lt9_6 : B1_2 < wr.heap.size := hO.lt 6 rfl
    have y9_6 : ∀ o, wr.frozen? ⟨B1_2, o, none⟩ = false := hO.free 6 rfl
    have c9_7_5 : wr.cell? ⟨B1_1, 5, none⟩ = some (.slice none 0 0) := hO.cell 7 rfl (5) rfl
    have lt9_7 : B1_1 < wr.heap.size := hO.lt 7 rfl
    have y9_7 : ∀ o, wr.frozen? ⟨B1_1, o, none⟩ = false := hO.free 7 rfl
    have HO := Lib.hid hO
    clear hO
    go_wp2_with (first | (with_reducible refine Own.stay (fn := Tryd.f3) ?_) | fail)
    try with_reducible refine Own.Stay.mk ?_
    have hO := HO.out
    clear HO c9_6_5 lt9_6 y9_6 c9_7_5 lt9_7 y9_7
    generalize hW : World.alloc _ _ = W60
    have hN : Own w0 W60 [row (wr.heap.size) 33 #[.int .u32 src, .int .u32 ((n : Int) + (i : Int))], row (nd4) 176 PC, row (qb) 185 (full trfZ (tqJ src n j) cq), row (nd57) 33 (full refZ (tgJ src n j) nd58), row (sb) 183 (full symZ (symL (stJ n j)) c), row (B1) 38 MC, row (gb) 33 (full refZ (tgJ src n j) cg), row (B1_2) 38 #[.pointer none, .pointer (some ⟨B1_1, 0, none⟩), .slice none 0 0, .map none, .slice none 0 0, .slice none 0 0, .int .i32 0, .int .i32 0, .int .u32 0, .int .u32 0, .bool false, .bool false, .bool false, .bool false, .int .u8 0, .int .u8 0], row (B1_1) 38 #[.pointer none, .pointer (some ⟨B1, 0, none⟩), .slice none 0 0, .map none, .slice none 0 0, .slice none 0 0, .int .i32 0, .int .i32 0, .int .u32 0, .int .u32 0, .bool false, .bool false, .bool false, .bool false, .int .u8 0, .int .u8 8]] X := by
      rw [← hW]
      exact (hO).alloc' _ (wr.heap.size) (by simp)
    clear hW hO
    generalize wr.heap.size = B59 at hN ⊢
    have hO := hN
    clear hN
    have hL := hO.apart
    have hX := hO.apartX
    have HL := Lib.hid hL
    have HX := Lib.hid hX
    clear hL hX
    have hP9 := hO.pick [0, 3, 5, 6] (by decide)
    generalize hX9_61 : Own.Rest _ _ X = X9_61 at hP9
    replace hP9 : Own w0 W60 [row (B59) 33 #[.int .u32 src, .int .u32 ((n : Int) + (i : Int))], row (nd57) 33 (full refZ (tgJ src n j) nd58), row (B1) 38 MC, row (gb) 33 (full refZ (tgJ src n j) cg)] X9_61 := hP9
    clear hO
    have hO := hP9
    clear hP9
    have st9 := rlaw7F1f1_st src n B1 j MC gb cg nd57 nd58 i B59
    let R9 := rlaw7F1f1R src n B1 j MC gb cg nd57 nd58 i B59
    refine wp_region_own (e := rlaw7F1f1E src n B1 j MC gb cg nd57 nd58 i B59) (anc := rlaw7F1f1Anc) (G := (fun L9 α u9 => OwnF w0 u9 (act rlaw7F1f1Cnt 4 L9) (rlaw7F1f1R src n B1 j MC gb cg nd57 nd58 i B59 L9 α) X9_61)) (by kernel_rfl) (by kernel_rfl) (by kernel_rfl) (by kernel_rfl) (rlaw7F1f1_he src n B1 j MC gb cg nd57 nd58 i B59) ?_ (RunsAll.all ?_) ?_
    · have hp : ∀ i, act rlaw7F1f1Cnt 4 (fun _ => false) i → i ∈ [999, 1999, 2999, 3999] := by
        intro i hi
        have h9 : i % 1000 = 999 := by
          by_cases h : i % 1000 = 999
          · exact h
          · exact absurd (act_lt hi h) (by simp)
        unfold act at hi
        rw [if_pos h9] at hi
        simp only [List.mem_cons, List.not_mem_nil, or_false]
        omega
      refine hO.drew.family (fun i hi => ?_) (fun i j hi hj hij => ?_)
      · have := hp i hi
        simp only [List.mem_cons, List.not_mem_nil, or_false] at this
        rcases this with rfl | rfl | rfl | rfl <;> rfl
      · have h1 := hp i hi
        have h2 := hp j hj
        simp only [List.mem_cons, List.not_mem_nil, or_false] at h1 h2
        omega
    · refine ⟨?_, ?_, ?_, ?_, ?_, ?_, ?_, ?_, ?_, ?_, ?_, ?_, ?_, ?_, ?_, ?_, ?_, trivial⟩
      · intro L9 α a9 u9 K9 hL hcl hA hG hS h0 hK
        replace hL : L9 0 = false := hL
        have q9 : a9.tmps[9]? = some (.pointer (some ⟨B1, 0, none⟩)) := (h0 9 (by kernel_rfl)).trans rfl
        have s9 := Rega.eval_of q9
        go_simp
        exact hK _ α _ (fun _ _ => rfl) rfl (step_same (st9) hL hcl rfl rfl hG)
      · intro L9 α a9 u9 K9 hL hcl hA hG hS h0 hK
        replace hL : L9 1 = false := hL
        have q139 : a9.tmps[139]? = some (.pointer (some ⟨B1, 0, none⟩)) := hS 0 139 (by decide) rfl (by show 139 < 175; decide)
        have s139 := Rega.eval_of q139
        go_simp
        exact hK _ α _ (fun _ _ => rfl) rfl (step_same (st9) hL hcl rfl rfl hG)
      · intro L9 α a9 u9 K9 hL hcl hA hG hS h0 hK
        replace hL : L9 2 = false := hL
        have q140 : a9.tmps[140]? = some (.pointer (some ⟨B1, 0, none⟩)) := hS 1 140 (by decide) rfl (by show 140 < 175; decide)
        have s140 := Rega.eval_of q140
        go_simp
        exact hK _ α _ (fun _ _ => rfl) rfl (step_same (st9) hL hcl rfl rfl hG)
      · intro L9 α a9 u9 K9 hL hcl hA hG hS h0 hK
        replace hL : L9 3 = false := hL
        have q141 : a9.tmps[141]? = some (.pointer (some ⟨B1, 5, none⟩)) := hS 2 141 (by decide) rfl (by show 141 < 175; decide)
        have s141 := Rega.eval_of q141
        have e0 : R9 L9 α 2999 = row (B1) 38 MC := rfl
        have hr := hG.rowAt 2999 (act_base 2999 rfl) e0
        have c0 : u9.cell? ⟨B1, 5, none⟩ = some (.slice (some ⟨gb, 0, none⟩) j (j + cg)) := hr.cell (hgen)
        clear hr e0
        go_simp
        exact hK _ α _ (fun _ _ => rfl) rfl (step_same (st9) hL hcl rfl rfl hG)
      · intro L9 α a9 u9 K9 hL hcl hA hG hS h0 hK
        replace hL : L9 4 = false := hL
        have q18 : a9.tmps[18]? = some (.int .i64 (i : Int)) := (h0 18 (by kernel_rfl)).trans rfl
        have s18 := Rega.eval_of q18
        go_simp
        exact hK _ α _ (fun _ _ => rfl) rfl (step_same (st9) hL hcl rfl rfl hG)
      · intro L9 α a9 u9 K9 hL hcl hA hG hS h0 hK
        replace hL : L9 5 = false := hL
        have q142 : a9.tmps[142]? = some (.slice (some ⟨gb, 0, none⟩) j (j + cg)) := hS 3 142 (by decide) rfl (by show 142 < 175; decide)
        have s142 := Rega.eval_of q142
        have q143 : a9.tmps[143]? = some (.int .i64 (i : Int)) := hS 4 143 (by decide) rfl (by show 143 < 175; decide)
        have s143 := Rega.eval_of q143
        go_simp
        exact hK _ α _ (fun _ _ => rfl) rfl (step_same (st9) hL hcl rfl rfl hG)
      · intro L9 α a9 u9 K9 hL hcl hA hG hS h0 hK
        replace hL : L9 6 = false := hL
        have q144 : a9.tmps[144]? = some (.pointer (some ⟨gb, i * 2, none⟩)) := hS 5 144 (by decide) rfl (by show 144 < 175; decide)
        have s144 := Rega.eval_of q144
        have e0 : R9 L9 α 3999 = row (gb) 33 (full refZ (tgJ src n j) cg) := rfl
        have hr := hG.rowAt 3999 (act_base 3999 rfl) e0
        have c0 : u9.cell? ⟨gb, i * 2, none⟩ = some (.int .u32 src) := hr.cell ((full_at (tgJ_at0 src n j i hlt)))
        have c1 : u9.cell? ⟨gb, i * 2 + 1, none⟩ = some (.int .u32 ((n : Int) + (i : Int))) := hr.cell ((full_at (tgJ_at1 src n j i hlt)))
        clear hr e0
        go_simp
        exact hK _ α _ (fun _ _ => rfl) rfl (step_same (st9) hL hcl rfl rfl hG)
      · intro L9 α a9 u9 K9 hL hcl hA hG hS h0 hK
        replace hL : L9 7 = false := hL
        have q19 : a9.tmps[19]? = some (.pointer (some ⟨B59, 0, none⟩)) := (h0 19 (by kernel_rfl)).trans rfl
        have s19 := Rega.eval_of q19
        have e0 : R9 L9 α 999 = row (B59) 33 #[.int .u32 src, .int .u32 ((n : Int) + (i : Int))] := rfl
        have hr := hG.rowAt 999 (act_base 999 rfl) e0
        have c0 : u9.cell? ⟨B59, 0, none⟩ = some (.int .u32 src) := hr.cell rfl
        have c1 : u9.cell? ⟨B59, 1, none⟩ = some (.int .u32 ((n : Int) + (i : Int))) := hr.cell rfl
        clear hr e0
        go_simp
        exact hK _ α _ (fun _ _ => rfl) rfl (step_same (st9) hL hcl rfl rfl hG)
      · intro L9 α a9 u9 K9 hL hcl hA hG hS h0 hK
        replace hL : L9 8 = false := hL
        have q145 : a9.tmps[145]? = some (.agg #[.int .u32 src, .int .u32 ((n : Int) + (i : Int))]) := hS 6 145 (by decide) rfl (by show 145 < 175; decide)
        have s145 := Rega.eval_of q145
        have q146 : a9.tmps[146]? = some (.agg #[.int .u32 src, .int .u32 ((n : Int) + (i : Int))]) := hS 7 146 (by decide) rfl (by show 146 < 175; decide)
        have s146 := Rega.eval_of q146
        go_simp
        exact hK _ α _ (fun _ _ => rfl) rfl (step_same (st9) hL hcl rfl rfl hG)
      · intro L9 α a9 u9 K9 hL hcl hA hG hS h0 hK
        replace hL : L9 9 = false := hL
        have q147 : a9.tmps[147]? = some (.bool false) := hS 8 147 (by decide) rfl (by show 147 < 175; decide)
        have s147 := Rega.eval_of q147
        go_simp
        exact hK _ α _ (fun _ _ => rfl) rfl (step_same (st9) hL hcl rfl rfl hG)
      · intro L9 α a9 u9 K9 hL hcl hA hG hS h0 hK
        replace hL : L9 10 = false := hL
        have q17 : a9.tmps[17]? = some (.slice (some ⟨nd57, 0, none⟩) j (j + nd58)) := (h0 17 (by kernel_rfl)).trans rfl
        have s17 := Rega.eval_of q17
        have q148 : a9.tmps[148]? = some (.bool false) := hS 9 148 (by decide) rfl (by show 148 < 175; decide)
        have s148 := Rega.eval_of q148
        go_simp
        exact hK _ α _ (fun _ _ => rfl) rfl (step_same (st9) hL hcl rfl rfl hG)
      · intro L9 α a9 u9 K9 hL hcl hA hG hS h0 hK
        replace hL : L9 11 = false := hL
        have q18 : a9.tmps[18]? = some (.int .i64 (i : Int)) := (h0 18 (by kernel_rfl)).trans rfl
        have s18 := Rega.eval_of q18
        have q148 : a9.tmps[148]? = some (.bool false) := hS 9 148 (by decide) rfl (by show 148 < 175; decide)
        have s148 := Rega.eval_of q148
        go_simp
        exact hK _ α _ (fun _ _ => rfl) rfl (step_same (st9) hL hcl rfl rfl hG)
      · intro L9 α a9 u9 K9 hL hcl hA hG hS h0 hK
        replace hL : L9 12 = false := hL
        have q149 : a9.tmps[149]? = some (.slice (some ⟨nd57, 0, none⟩) j (j + nd58)) := hS 10 149 (by decide) rfl (by show 149 < 175; decide)
        have s149 := Rega.eval_of q149
        have q150 : a9.tmps[150]? = some (.int .i64 (i : Int)) := hS 11 150 (by decide) rfl (by show 150 < 175; decide)
        have s150 := Rega.eval_of q150
        have q148 : a9.tmps[148]? = some (.bool false) := hS 9 148 (by decide) rfl (by show 148 < 175; decide)
        have s148 := Rega.eval_of q148
        go_simp
        exact hK _ α _ (fun _ _ => rfl) rfl (step_same (st9) hL hcl rfl rfl hG)
      · intro L9 α a9 u9 K9 hL hcl hA hG hS h0 hK
        replace hL : L9 13 = false := hL
        have q151 : a9.tmps[151]? = some (.pointer (some ⟨nd57, i * 2, none⟩)) := hS 12 151 (by decide) rfl (by show 151 < 175; decide)
        have s151 := Rega.eval_of q151
        have q148 : a9.tmps[148]? = some (.bool false) := hS 9 148 (by decide) rfl (by show 148 < 175; decide)
        have s148 := Rega.eval_of q148
        have e0 : R9 L9 α 1999 = row (nd57) 33 (full refZ (tgJ src n j) nd58) := rfl
        have hr := hG.rowAt 1999 (act_base 1999 rfl) e0
        have c0 : u9.cell? ⟨nd57, i * 2, none⟩ = some (.int .u32 src) := hr.cell ((full_at (tgJ_at0 src n j i hlt)))
        have c1 : u9.cell? ⟨nd57, i * 2 + 1, none⟩ = some (.int .u32 ((n : Int) + (i : Int))) := hr.cell ((full_at (tgJ_at1 src n j i hlt)))
        clear hr e0
        go_simp
        exact hK _ α _ (fun _ _ => rfl) rfl (step_same (st9) hL hcl rfl rfl hG)
      · intro L9 α a9 u9 K9 hL hcl hA hG hS h0 hK
        replace hL : L9 14 = false := hL
        have q19 : a9.tmps[19]? = some (.pointer (some ⟨B59, 0, none⟩)) := (h0 19 (by kernel_rfl)).trans rfl
        have s19 := Rega.eval_of q19
        have q148 : a9.tmps[148]? = some (.bool false) := hS 9 148 (by decide) rfl (by show 148 < 175; decide)
        have s148 := Rega.eval_of q148
        have e0 : R9 L9 α 999 = row (B59) 33 #[.int .u32 src, .int .u32 ((n : Int) + (i : Int))] := rfl
        have hr := hG.rowAt 999 (act_base 999 rfl) e0
        have c0 : u9.cell? ⟨B59, 0, none⟩ = some (.int .u32 src) := hr.cell rfl
        have c1 : u9.cell? ⟨B59, 1, none⟩ = some (.int .u32 ((n : Int) + (i : Int))) := hr.cell rfl
        clear hr e0
        go_simp
        exact hK _ α _ (fun _ _ => rfl) rfl (step_same (st9) hL hcl rfl rfl hG)
      · intro L9 α a9 u9 K9 hL hcl hA hG hS h0 hK
        replace hL : L9 15 = false := hL
        have q152 : a9.tmps[152]? = some (.agg #[.int .u32 src, .int .u32 ((n : Int) + (i : Int))]) := hS 13 152 (by decide) rfl (by show 152 < 175; decide)
        have s152 := Rega.eval_of q152
        have q153 : a9.tmps[153]? = some (.agg #[.int .u32 src, .int .u32 ((n : Int) + (i : Int))]) := hS 14 153 (by decide) rfl (by show 153 < 175; decide)
        have s153 := Rega.eval_of q153
        have q148 : a9.tmps[148]? = some (.bool false) := hS 9 148 (by decide) rfl (by show 148 < 175; decide)
        have s148 := Rega.eval_of q148
        go_simp
        exact hK _ α _ (fun _ _ => rfl) rfl (step_same (st9) hL hcl rfl rfl hG)
      · intro L9 α a9 u9 K9 hL hcl hA hG hS h0 hK
        replace hL : L9 16 = false := hL
        have q148 : a9.tmps[148]? = some (.bool false) := hS 9 148 (by decide) rfl (by show 148 < 175; decide)
        have s148 := Rega.eval_of q148
        have q154 : a9.tmps[154]? = some (.bool false) := hS 15 154 (by decide) rfl (by show 154 < 175; decide)
        have s154 := Rega.eval_of q154
        go_simp
        exact hK _ α _ (fun _ _ => rfl) rfl (step_same (st9) hL hcl rfl rfl hG)
    clear st9
    intro α u hG
    have e0 : R9 (fun k => decide (k < 17)) α 999 = row (B59) 33 #[.int .u32 src, .int .u32 ((n : Int) + (i : Int))] := rfl
    have e1 : R9 (fun k => decide (k < 17)) α 1999 = row (nd57) 33 (full refZ (tgJ src n j) nd58) := rfl
    have e2 : R9 (fun k => decide (k < 17)) α 2999 = row (B1) 38 MC := rfl
    have e3 : R9 (fun k => decide (k < 17)) α 3999 = row (gb) 33 (full refZ (tgJ src n j) cg) := rfl
    have hO : Own w0 u [row (B59) 33 #[.int .u32 src, .int .u32 ((n : Int) + (i : Int))], row (nd57) 33 (full refZ (tgJ src n j) nd58), row (B1) 38 MC, row (gb) 33 (full refZ (tgJ src n j) cg)] X9_61 := (hG.list [999, 1999, 2999, 3999] (by decide) (act_all (by decide))).conv (by
      show [R9 (fun k => decide (k < 17)) α 999, R9 (fun k => decide (k < 17)) α 1999, R9 (fun k => decide (k < 17)) α 2999, R9 (fun k => decide (k < 17)) α 3999] = _
      rw [e0, e1, e2, e3])
    clear hG e0 e1 e2 e3 R9
    generalize hfr : Rega.frameAt _ _ _ _ _ = fr
    have hdf : fr = ⟨#[.int .u32 src, .int .i64 (j : Int), .int .i64 (n : Int), .bool false, undef, undef, undef, undef, u8, .pointer (some ⟨B1, 0, none⟩), .pointer (some ⟨B1_1, 0, none⟩), .pointer (some ⟨B1_2, 0, none⟩), .pointer (some ⟨nd4, 0, none⟩), .int .i64 (j : Int), u14, u15, .int .i64 0, .slice (some ⟨nd57, 0, none⟩) j (j + nd58), .int .i64 (i : Int), .pointer (some ⟨B59, 0, none⟩), .int .i64 (j : Int), .bool (decide ((j : Int) < 0)), .bool (decide ((j : Int) < 0)), .int .i64 (j : Int), .bool (decide (4096 < (j : Int))), .bool (decide ((j : Int) < 0) || decide (4096 < (j : Int))), .int .i64 (n : Int), .bool (decide ((n : Int) < 0)), .bool (decide ((n : Int) < 0)), .int .i64 (n : Int), .bool (decide (65536 < (n : Int))), .bool (decide ((n : Int) < 0) || decide (65536 < (n : Int))), .agg #[.pointer none, .pointer none, .slice none 0 0, .map none, .slice none 0 0, .slice none 0 0, .int .i32 0, .int .i32 0, .int .u32 0, .int .u32 0, .bool false, .bool false, .bool false, .bool false, .int .u8 0, .int .u8 6], .pointer (some ⟨B1, 0, none⟩), .pointer (some ⟨B1, 0, none⟩), .agg #[.pointer none, .pointer (some ⟨B1, 0, none⟩), .slice none 0 0, .map none, .slice none 0 0, .slice none 0 0, .int .i32 0, .int .i32 0, .int .u32 0, .int .u32 0, .bool false, .bool false, .bool false, .bool false, .int .u8 0, .int .u8 8], .pointer (some ⟨B1_1, 0, none⟩), .pointer (some ⟨B1_1, 0, none⟩), .agg #[.pointer none, .pointer (some ⟨B1_1, 0, none⟩), .slice none 0 0, .map none, .slice none 0 0, .slice none 0 0, .int .i32 0, .int .i32 0, .int .u32 0, .int .u32 0, .bool false, .bool false, .bool false, .bool false, .int .u8 0, .int .u8 0], .pointer (some ⟨B1_2, 0, none⟩), .int .u32 src, .bool false, .int .i64 (n : Int), .pointer (some ⟨B1_2, 0, none⟩), .pointer (some ⟨B1, 0, none⟩), .pointer (some ⟨nd4, 0, none⟩), .int .i64 (j : Int), .int .i64 (j : Int), .bool false, u49, u50, u51, u52, u53, u54, u55, u56, u57, u58, u59, u60, u61, u62, u63, u64, u65, u66, u67, u68, u69, u70, u71, u72, u73, u74, u75, u76, u77, u78, u79, u80, u81, u82, u83, u84, .pointer (some ⟨nd4, 0, none⟩), .int .i64 ((n : Int) + (j : Int)), .int .i64 (n : Int), .int .i64 (j : Int), .int .i64 ((n : Int) + (j : Int)), .bool false, .bool false, undef, undef, undef, .pointer (some ⟨nd4, 0, none⟩), .int .i64 0, .int .i64 0, .bool false, .pointer (some ⟨B1, 0, none⟩), .pointer (some ⟨B1, 0, none⟩), .pointer (some ⟨B1, 5, none⟩), .slice (some ⟨gb, 0, none⟩) j (j + cg), .int .i64 (j : Int), .int .i64 (j : Int), .bool false, .bool false, .pointer (some ⟨B1_1, 0, none⟩), .pointer (some ⟨B1_1, 0, none⟩), .pointer (some ⟨B1_1, 5, none⟩), .slice none 0 0, .int .i64 0, .bool false, .bool false, .bool false, .pointer (some ⟨B1_2, 0, none⟩), .pointer (some ⟨B1_2, 0, none⟩), .pointer (some ⟨B1_2, 5, none⟩), .slice none 0 0, .int .i64 0, .bool false, .bool false, .pointer (some ⟨nd4, 0, none⟩), .slice (some ⟨nd57, 0, none⟩) j (j + nd58), .slice (some ⟨nd57, 0, none⟩) j (j + nd58), .int .i64 (j : Int), .int .i64 (j : Int), .bool false, .int .i64 (i : Int), .int .i64 (j : Int), .bool true, u131, u132, .int .u32 src, .int .i64 (n : Int), .int .i64 (i : Int), .int .i64 ((n : Int) + (i : Int)), .int .u32 ((n : Int) + (i : Int)), .agg #[.int .u32 src, .int .u32 ((n : Int) + (i : Int))], .pointer (some ⟨B1, 0, none⟩), .pointer (some ⟨B1, 0, none⟩), .pointer (some ⟨B1, 5, none⟩), .slice (some ⟨gb, 0, none⟩) j (j + cg), .int .i64 (i : Int), .pointer (some ⟨gb, i * 2, none⟩), .agg #[.int .u32 src, .int .u32 ((n : Int) + (i : Int))], .agg #[.int .u32 src, .int .u32 ((n : Int) + (i : Int))], .bool false, .bool false, .slice (some ⟨nd57, 0, none⟩) j (j + nd58), .int .i64 (i : Int), .pointer (some ⟨nd57, i * 2, none⟩), .agg #[.int .u32 src, .int .u32 ((n : Int) + (i : Int))], .agg #[.int .u32 src, .int .u32 ((n : Int) + (i : Int))], .bool false, .bool false, undef, undef, undef, undef, undef, undef, undef, undef, undef, undef, undef, undef, undef, undef, undef, undef, undef, undef, undef], []⟩ := by rw [← hfr]; kernel_rfl
    clear hfr
    subst hdf
    clear α
    subst hX9_61
    have hN : Own w0 u [row (B59) 33 #[.int .u32 src, .int .u32 ((n : Int) + (i : Int))], row (nd57) 33 (full refZ (tgJ src n j) nd58), row (B1) 38 MC, row (gb) 33 (full refZ (tgJ src n j) cg), row (nd4) 176 PC, row (qb) 185 (full trfZ (tqJ src n j) cq), row (sb) 183 (full symZ (symL (stJ n j)) c), row (B1_2) 38 #[.pointer none, .pointer (some ⟨B1_1, 0, none⟩), .slice none 0 0, .map none, .slice none 0 0, .slice none 0 0, .int .i32 0, .int .i32 0, .int .u32 0, .int .u32 0, .bool false, .bool false, .bool false, .bool false, .int .u8 0, .int .u8 0], row (B1_1) 38 #[.pointer none, .pointer (some ⟨B1, 0, none⟩), .slice none 0 0, .map none, .slice none 0 0, .slice none 0 0, .int .i32 0, .int .i32 0, .int .u32 0, .int .u32 0, .bool false, .bool false, .bool false, .bool false, .int .u8 0, .int .u8 8]] X := hO.back HL.out HX.out [1, 2, 4, 7, 8] (by decide) (by decide)
    clear hO HL HX
    have hO := hN
    clear hN
    obtain ⟨c9_0_0, c9_0_1, lt9_0, y9_0, -⟩ := hO.k2 0 rfl
    have c9_7_5 : u.cell? ⟨B1_2, 5, none⟩ = some (.slice none 0 0) := hO.cell 7 rfl (5) rfl
    have lt9_7 : B1_2 < u.heap.size := hO.lt 7 rfl
    have y9_7 : ∀ o, u.frozen? ⟨B1_2, o, none⟩ = false := hO.free 7 rfl
    have c9_8_5 : u.cell? ⟨B1_1, 5, none⟩ = some (.slice none 0 0) := hO.cell 8 rfl (5) rfl
    have lt9_8 : B1_1 < u.heap.size := hO.lt 8 rfl
    have y9_8 : ∀ o, u.frozen? ⟨B1_1, o, none⟩ = false := hO.free 8 rfl
    have HO := Lib.hid hO
    clear hO
    go_wp2_with (first | (with_reducible refine Own.stay (fn := Tryd.f3) ?_) | fail)
    try with_reducible refine Own.Stay.mk ?_
    have hO := HO.out
    clear HO c9_0_0 c9_0_1 lt9_0 y9_0 c9_7_5 lt9_7 y9_7 c9_8_5 lt9_8 y9_8
    have hN : Own w0 u [row (nd4) 176 PC, row (qb) 185 (full trfZ (tqJ src n j) cq), row (nd57) 33 (full refZ (tgJ src n j) nd58), row (sb) 183 (full symZ (symL (stJ n j)) c), row (B1) 38 MC, row (gb) 33 (full refZ (tgJ src n j) cg), row (B1_2) 38 #[.pointer none, .pointer (some ⟨B1_1, 0, none⟩), .slice none 0 0, .map none, .slice none 0 0, .slice none 0 0, .int .i32 0, .int .i32 0, .int .u32 0, .int .u32 0, .bool false, .bool false, .bool false, .bool false, .int .u8 0, .int .u8 0], row (B1_1) 38 #[.pointer none, .pointer (some ⟨B1, 0, none⟩), .slice none 0 0, .map none, .slice none 0 0, .slice none 0 0, .int .i32 0, .int .i32 0, .int .u32 0, .int .u32 0, .bool false, .bool false, .bool false, .bool false, .int .u8 0, .int .u8 8]] X := hO.sub [4, 5, 1, 6, 2, 3, 7, 8] (by decide)
    clear hO
    have hO := hN
    clear hN
    go_roundg gq
    case measure => omega
    case rel => exact ⟨i + 1, by first | rfl | simp, by omega, hO⟩
  obtain rfl : gk = 0 := by omega
  obtain rfl : i = j := by omega
  have hlt8 : ¬ (i : Int) < (i : Int) := by omega
  clear hlt hij
  have c9_6_5 : wr.cell? ⟨B1_2, 5, none⟩ = some (.slice none 0 0) := hO.cell 6 rfl (5) rfl
  have lt9_6 : B1_2 < wr.heap.size := hO.lt 6 rfl
  have y9_6 : ∀ o, wr.frozen? ⟨B1_2, o, none⟩ = false := hO.free 6 rfl
  have c9_7_5 : wr.cell? ⟨B1_1, 5, none⟩ = some (.slice none 0 0) := hO.cell 7 rfl (5) rfl
  have lt9_7 : B1_1 < wr.heap.size := hO.lt 7 rfl
  have y9_7 : ∀ o, wr.frozen? ⟨B1_1, o, none⟩ = false := hO.free 7 rfl
  have HO := Lib.hid hO
  clear hO
  go_wp2_with (first | (with_reducible refine Own.stay (fn := Tryd.f3) ?_) | fail)
  try with_reducible refine Own.Stay.mk ?_
  have hO := HO.out
  clear HO c9_6_5 lt9_6 y9_6 c9_7_5 lt9_7 y9_7
  have hL := hO.apart
  have hX := hO.apartX
  have HL := Lib.hid hL
  have HX := Lib.hid hX
  clear hL hX
  have hP9 := hO.pick [0] (by decide)
  have T9 := topCnt nd4 PC (i : Int) _ _ _ hP9 hk288
  refine Calls.mono T9 ?_
  clear hP9 T9
  rintro e uw62 ⟨rfl, hQ⟩
  have hN : Own w0 uw62 [row (nd4) 176 PC, row (qb) 185 (full trfZ (tqJ src n i) cq), row (nd57) 33 (full refZ (tgJ src n i) nd58), row (sb) 183 (full symZ (symL (stJ n i)) c), row (B1) 38 MC, row (gb) 33 (full refZ (tgJ src n i) cg), row (B1_2) 38 #[.pointer none, .pointer (some ⟨B1_1, 0, none⟩), .slice none 0 0, .map none, .slice none 0 0, .slice none 0 0, .int .i32 0, .int .i32 0, .int .u32 0, .int .u32 0, .bool false, .bool false, .bool false, .bool false, .int .u8 0, .int .u8 0], row (B1_1) 38 #[.pointer none, .pointer (some ⟨B1, 0, none⟩), .slice none 0 0, .map none, .slice none 0 0, .slice none 0 0, .int .i32 0, .int .i32 0, .int .u32 0, .int .u32 0, .bool false, .bool false, .bool false, .bool false, .int .u8 0, .int .u8 8]] X := hQ.back HL.out HX.out [1, 2, 3, 4, 5, 6, 7] (by decide) (by decide)
  clear hQ HL HX hO
  have hO := hN
  clear hN
  have c9_6_5 : uw62.cell? ⟨B1_2, 5, none⟩ = some (.slice none 0 0) := hO.cell 6 rfl (5) rfl
  have lt9_6 : B1_2 < uw62.heap.size := hO.lt 6 rfl
  have y9_6 : ∀ o, uw62.frozen? ⟨B1_2, o, none⟩ = false := hO.free 6 rfl
  have c9_7_5 : uw62.cell? ⟨B1_1, 5, none⟩ = some (.slice none 0 0) := hO.cell 7 rfl (5) rfl
  have lt9_7 : B1_1 < uw62.heap.size := hO.lt 7 rfl
  have y9_7 : ∀ o, uw62.frozen? ⟨B1_1, o, none⟩ = false := hO.free 7 rfl
  have HO := Lib.hid hO
  clear hO
  go_wp2_with (first | (with_reducible refine Own.stay (fn := Tryd.f3) ?_) | fail)
  try with_reducible refine Own.Stay.mk ?_
  have hO := HO.out
  clear HO c9_6_5 lt9_6 y9_6 c9_7_5 lt9_7 y9_7
  have hL := hO.apart
  have hX := hO.apartX
  have HL := Lib.hid hL
  have HX := Lib.hid hX
  clear hL hX
  have hP9 := hO.pick [0] (by decide)
  have T9 := tmpCnt nd4 PC 0 _ _ _ hP9 hk287
  refine Calls.mono T9 ?_
  clear hP9 T9
  rintro e uw63 ⟨rfl, hQ⟩
  have hN : Own w0 uw63 [row (nd4) 176 PC, row (qb) 185 (full trfZ (tqJ src n i) cq), row (nd57) 33 (full refZ (tgJ src n i) nd58), row (sb) 183 (full symZ (symL (stJ n i)) c), row (B1) 38 MC, row (gb) 33 (full refZ (tgJ src n i) cg), row (B1_2) 38 #[.pointer none, .pointer (some ⟨B1_1, 0, none⟩), .slice none 0 0, .map none, .slice none 0 0, .slice none 0 0, .int .i32 0, .int .i32 0, .int .u32 0, .int .u32 0, .bool false, .bool false, .bool false, .bool false, .int .u8 0, .int .u8 0], row (B1_1) 38 #[.pointer none, .pointer (some ⟨B1, 0, none⟩), .slice none 0 0, .map none, .slice none 0 0, .slice none 0 0, .int .i32 0, .int .i32 0, .int .u32 0, .int .u32 0, .bool false, .bool false, .bool false, .bool false, .int .u8 0, .int .u8 8]] X := hQ.back HL.out HX.out [1, 2, 3, 4, 5, 6, 7] (by decide) (by decide)
  clear hQ HL HX hO
  have hO := hN
  clear hN
  have c9_6_5 : uw63.cell? ⟨B1_2, 5, none⟩ = some (.slice none 0 0) := hO.cell 6 rfl (5) rfl
  have lt9_6 : B1_2 < uw63.heap.size := hO.lt 6 rfl
  have y9_6 : ∀ o, uw63.frozen? ⟨B1_2, o, none⟩ = false := hO.free 6 rfl
  have c9_7_5 : uw63.cell? ⟨B1_1, 5, none⟩ = some (.slice none 0 0) := hO.cell 7 rfl (5) rfl
  have lt9_7 : B1_1 < uw63.heap.size := hO.lt 7 rfl
  have y9_7 : ∀ o, uw63.frozen? ⟨B1_1, o, none⟩ = false := hO.free 7 rfl
  have HO := Lib.hid hO
  clear hO
  go_wp2_with (first | (with_reducible refine Own.stay (fn := Tryd.f3) ?_) | fail)
  try with_reducible refine Own.Stay.mk ?_
  have hO := HO.out
  clear HO c9_6_5 lt9_6 y9_6 c9_7_5 lt9_7 y9_7
  have hL := hO.apart
  have hX := hO.apartX
  have HL := Lib.hid hL
  have HX := Lib.hid hX
  clear hL hX
  have hP9 := hO.pick [0] (by decide)
  have T9 := tmpRefs0 nd4 PC _ _ _ hP9 hk199
  refine Calls.mono T9 ?_
  clear hP9 T9
  rintro e uw64 ⟨nd65, rfl, hQ⟩
  have hN : Own w0 uw64 [row (nd4) 176 PC, row (qb) 185 (full trfZ (tqJ src n i) cq), row (nd57) 33 (full refZ (tgJ src n i) nd58), row (sb) 183 (full symZ (symL (stJ n i)) c), row (B1) 38 MC, row (gb) 33 (full refZ (tgJ src n i) cg), row (B1_2) 38 #[.pointer none, .pointer (some ⟨B1_1, 0, none⟩), .slice none 0 0, .map none, .slice none 0 0, .slice none 0 0, .int .i32 0, .int .i32 0, .int .u32 0, .int .u32 0, .bool false, .bool false, .bool false, .bool false, .int .u8 0, .int .u8 0], row (B1_1) 38 #[.pointer none, .pointer (some ⟨B1, 0, none⟩), .slice none 0 0, .map none, .slice none 0 0, .slice none 0 0, .int .i32 0, .int .i32 0, .int .u32 0, .int .u32 0, .bool false, .bool false, .bool false, .bool false, .int .u8 0, .int .u8 8]] X := hQ.back HL.out HX.out [1, 2, 3, 4, 5, 6, 7] (by decide) (by decide)
  clear hQ HL HX hO
  have hO := hN
  clear hN
  have c9_6_5 : uw64.cell? ⟨B1_2, 5, none⟩ = some (.slice none 0 0) := hO.cell 6 rfl (5) rfl
  have lt9_6 : B1_2 < uw64.heap.size := hO.lt 6 rfl
  have y9_6 : ∀ o, uw64.frozen? ⟨B1_2, o, none⟩ = false := hO.free 6 rfl
  have c9_7_5 : uw64.cell? ⟨B1_1, 5, none⟩ = some (.slice none 0 0) := hO.cell 7 rfl (5) rfl
  have lt9_7 : B1_1 < uw64.heap.size := hO.lt 7 rfl
  have y9_7 : ∀ o, uw64.frozen? ⟨B1_1, o, none⟩ = false := hO.free 7 rfl
  have HO := Lib.hid hO
  clear hO
  go_wp2_with (first | (with_reducible refine Own.stay (fn := Tryd.f3) ?_) | fail)
  try with_reducible refine Own.Stay.mk ?_
  have hO := HO.out
  clear HO c9_6_5 lt9_6 y9_6 c9_7_5 lt9_7 y9_7
  have hL := hO.apart
  have hX := hO.apartX
  have HL := Lib.hid hL
  have HX := Lib.hid hX
  clear hL hX
  have hP9 := hO.pick [0] (by decide)
  have T9 := tmpLets0 nd4 PC _ _ _ hP9 hk198
  refine Calls.mono T9 ?_
  clear hP9 T9
  rintro e uw66 ⟨rfl, hQ⟩
  have hN : Own w0 uw66 [row (nd4) 176 PC, row (qb) 185 (full trfZ (tqJ src n i) cq), row (nd57) 33 (full refZ (tgJ src n i) nd58), row (sb) 183 (full symZ (symL (stJ n i)) c), row (B1) 38 MC, row (gb) 33 (full refZ (tgJ src n i) cg), row (B1_2) 38 #[.pointer none, .pointer (some ⟨B1_1, 0, none⟩), .slice none 0 0, .map none, .slice none 0 0, .slice none 0 0, .int .i32 0, .int .i32 0, .int .u32 0, .int .u32 0, .bool false, .bool false, .bool false, .bool false, .int .u8 0, .int .u8 0], row (B1_1) 38 #[.pointer none, .pointer (some ⟨B1, 0, none⟩), .slice none 0 0, .map none, .slice none 0 0, .slice none 0 0, .int .i32 0, .int .i32 0, .int .u32 0, .int .u32 0, .bool false, .bool false, .bool false, .bool false, .int .u8 0, .int .u8 8]] X := hQ.back HL.out HX.out [1, 2, 3, 4, 5, 6, 7] (by decide) (by decide)
  clear hQ HL HX hO
  have hO := hN
  clear hN
  have c9_6_5 : uw66.cell? ⟨B1_2, 5, none⟩ = some (.slice none 0 0) := hO.cell 6 rfl (5) rfl
  have lt9_6 : B1_2 < uw66.heap.size := hO.lt 6 rfl
  have y9_6 : ∀ o, uw66.frozen? ⟨B1_2, o, none⟩ = false := hO.free 6 rfl
  have c9_7_5 : uw66.cell? ⟨B1_1, 5, none⟩ = some (.slice none 0 0) := hO.cell 7 rfl (5) rfl
  have lt9_7 : B1_1 < uw66.heap.size := hO.lt 7 rfl
  have y9_7 : ∀ o, uw66.frozen? ⟨B1_1, o, none⟩ = false := hO.free 7 rfl
  have HO := Lib.hid hO
  clear hO
  go_wp2_with (first | (with_reducible refine Own.stay (fn := Tryd.f3) ?_) | fail)
  try with_reducible refine Own.Stay.mk ?_
  have hO := HO.out
  clear HO c9_6_5 lt9_6 y9_6 c9_7_5 lt9_7 y9_7
  refine bodyPost_ret (v := .bool true) ?_ rfl ⟨rfl, hO.sub [] (by decide)⟩
  simp [results, Tryd.results3, go_sem]
end Go.Proofs.YtkmojepgbbdeiaaDoor.Use
