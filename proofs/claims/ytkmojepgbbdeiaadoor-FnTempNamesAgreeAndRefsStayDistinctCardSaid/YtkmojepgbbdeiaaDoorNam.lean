/- The law on the names of temporaries, walked. No condition. -/
import Derived.Test.YtkmojepgbbdeiaaDoorS6
import Derived.Test.YtkmojepgbbdeiaaDoorS5
import Derived.Test.YtkmojepgbbdeiaaDoorSnb
import Derived.Test.YtkmojepgbbdeiaaDoorRdl
import Derived.Test.YtkmojepgbbdeiaaDoorPrs
import Derived.Test.YtkmojepgbbdeiaaDoorSrf
import Derived.Test.YtkmojepgbbdeiaaDoorAdn
import Derived.Test.YtkmojepgbbdeiaaDoorS41
import Derived.Test.YtkmojepgbbdeiaaDoorS41h
import Derived.Test.YtkmojepgbbdeiaaDoorRd2
import Derived.Test.YtkmojepgbbdeiaaDoorTop
import Derived.Test.YtkmojepgbbdeiaaDoorSt
import Derived.Test.YtkmojepgbbdeiaaDoorLoop
import Derived.Test.YtkmojepgbbdeiaaDoorNewP
import Derived.Test.YtkmojepgbbdeiaaDoorMini
import Derived.Test.YtkmojepgbbdeiaaDoorAppL
import Derived.Test.YtkmojepgbbdeiaaDoorApp
import Derived.Test.YtkmojepgbbdeiaaDoorOwnK
import Derived.Test.YtkmojepgbbdeiaaDoorOwn
import Derived.Test.YtkmojepgbbdeiaaDoorDeepCells
import Derived.Test.YtkmojepgbbdeiaaDoorRows
import Derived.Test.YtkmojepgbbdeiaaDoorLive
namespace Go.Proofs.YtkmojepgbbdeiaaDoor.Use
open Go.ChangeShapes Go.WideShapes Go.ChangeAt Go.RowKit Go.Sort Own
set_option linter.unusedVariables false
theorem rS_yes {src : Int} {B : Nat → Bool} {c : Bool} {j : Nat} (h : B j = c) : rS src B c j ++ [.int .u32 src, .int .u32 (j : Int)] = rS src B c (j + 1) := sel_yes h
theorem rS_no {src : Int} {B : Nat → Bool} {c : Bool} {j : Nat} (h : ¬ B j = c) : rS src B c j = rS src B c (j + 1) := sel_no h
theorem qS_no {src : Int} {B : Nat → Bool} {c : Bool} {j : Nat} (h : ¬ B j = c) : qS src B c j = qS src B c (j + 1) := sel_no h

def rNAE (s : Nat) (a : Nat) (b : Nat) (bu : Nat) (cu : Nat) (bv : Nat) (cv : Nat) (i : Nat) : Nat → Rega.Atoms → Value
  | 0, α => .slice (some ⟨bu, 0, none⟩) a (a + cu)
  | 1, α => .int .i64 (i : Int)
  | 2, α => .pointer (some ⟨bu, i, none⟩)
  | 3, α => .string (tn (s + i))
  | 4, α => .slice (some ⟨bv, 0, none⟩) b (b + cv)
  | 5, α => .int .i64 (i : Int)
  | 6, α => .pointer (some ⟨bv, i, none⟩)
  | 7, α => .string (tn (s + i))
  | 8, α => .bool false
  | _, _ => undef
def rNAAnc : Nat → List Nat
  | 2 => [0, 1]
  | 3 => [0, 1, 2]
  | 6 => [4, 5]
  | 7 => [4, 5, 6]
  | 8 => [0, 1, 2, 3, 4, 5, 6, 7]
  | _ => []
def rNATrn : Nat → List Nat
  | _ => []
def rNACnt : List (Nat × Nat) := []
def rNAR (s : Nat) (a : Nat) (b : Nat) (bu : Nat) (cu : Nat) (bv : Nat) (cv : Nat) (i : Nat) (L9 : Nat → Bool) (α : Rega.Atoms) (ix9 : Nat) : Rw := if ix9 = 999 then row (bu) 9 (full strZ (tnm s a) cu) else if ix9 = 1999 then row (bv) 9 (full strZ (tnm s b) cv) else (0, .map #[] 0)
theorem rNA_he (s : Nat) (a : Nat) (b : Nat) (bu : Nat) (cu : Nat) (bv : Nat) (cv : Nat) (i : Nat) : ∀ kk α α', (∀ j, (j % 1000 = kk ∨ j % 1000 ∈ rNAAnc kk) → α j = α' j) → rNAE s a b bu cu bv cv i kk α = rNAE s a b bu cu bv cv i kk α' := by
  intro kk α α' h
  match kk with
  | 0 => rfl
  | 1 => rfl
  | 2 => rfl
  | 3 => rfl
  | 4 => rfl
  | 5 => rfl
  | 6 => rfl
  | 7 => rfl
  | 8 => rfl
  | n + 9 => rfl
theorem rNA_st (s : Nat) (a : Nat) (b : Nat) (bu : Nat) (cu : Nat) (bv : Nat) (cv : Nat) (i : Nat) : Stable rNACnt 2 rNAAnc rNATrn (rNAR s a b bu cu bv cv i) := by
  intro k9 L9 α α' ix9 hk hcl hα hact ht
  have hp := act_places hact
  replace hp : ix9 ∈ [999, 1999] := hp
  simp only [List.mem_cons, List.not_mem_nil, or_false] at hp
  rcases hp with rfl | rfl
  · rfl
  · rfl
def law41Post (src : Int) (xs : Option Addr) (n cp : Nat) (B : Nat → Bool) (s : Nat) (w0 : World) (X : Nat → Obj → Prop) (e : Ending) (w' : World) : Prop :=
  e = .returned (.bool true) ∧ Own w0 w' [] X
set_option maxRecDepth 100000 in
set_option maxHeartbeats 20000000 in
theorem law41 (src : Int) (xs : Option Addr) (n cp : Nat) (B : Nat → Bool) (s : Nat) (w0 w : World) (X : Nat → Obj → Prop) (hO : Own w0 w [] X) (hn4 : n ≤ 4096) (hB : ∀ i, i < n → ∃ sa, xs = some sa ∧ w0.cell? (sa.add i) = some (.bool (B i))) (hs4 : s ≤ 65536) (hg0 : w0.cell? ⟨0, 0, none⟩ = some (.int .u32 4294967295)) (hg1 : w0.cell? ⟨0, 1, none⟩ = some (.int .u32 4294967295)) :
    Calls Tryd.prog 4 #[.int .u32 src, .slice xs n cp, .int .i64 (s : Int)] w (law41Post src xs n cp B s w0 X) := by
  go_enter Tryd.func4, Tryd.ntmps4
  have hn9 : (n : Int) ≤ 4096 := by omega
  have hn8 : (n : Int) ≤ 1048576 := by omega
  have hs9 : (s : Int) ≤ 65536 := by omega
  have hs8 : (0 : Int) ≤ (s : Int) := by omega
  have hmk := makeRefs n (by omega)
  have hms := makeStrs n (by omega)
  go_wp2_with (first | (with_reducible refine Own.stay (fn := Tryd.f4) ?_) | (at_builtin; refine Own.appStop ?_) | (first | (go_at_call 17; go_in)))
  try with_reducible refine Own.Stay.mk ?_
  generalize hW : World.alloc _ _ = W2
  have hN : Own w0 W2 [row (w.heap.size) 38 #[.pointer none, .pointer none, .slice none 0 0, .map none, .slice none 0 0, .slice none 0 0, .int .i32 0, .int .i32 0, .int .u32 0, .int .u32 0, .bool false, .bool false, .bool false, .bool false, .int .u8 0, .int .u8 6]] X := by
    rw [← hW]
    exact (hO).alloc' _ (w.heap.size) (by simp)
  clear hW hO
  generalize w.heap.size = B1 at hN ⊢
  have hO := hN
  clear hN
  have hL := hO.apart
  have hX := hO.apartX
  have HL := Lib.hid hL
  have HX := Lib.hid hX
  clear hL hX
  have hP9 := hO.pick [] (by decide)
  have h9_hn5 : 0 ≤ 100000 := (by first | assumption | omega | (simp; done) | (simp; omega))
  have T9 := newPFO src 0 B1 B1 _ _ _ hP9 h9_hn5
  refine Calls.mono T9 ?_
  clear hP9 T9 h9_hn5
  rintro e uw3 ⟨nd4, nd5, rfl, hQ⟩
  have hN : Own w0 uw3 [row (nd4) 176 (newPF src 0 nd5 0 B1 B1), row (nd5) 183 (full symZ (symL (zSys 0)) 0), row (B1) 38 #[.pointer none, .pointer none, .slice none 0 0, .map none, .slice none 0 0, .slice none 0 0, .int .i32 0, .int .i32 0, .int .u32 0, .int .u32 0, .bool false, .bool false, .bool false, .bool false, .int .u8 0, .int .u8 6]] X := hQ.back HL.out HX.out [0] (by decide) (by decide)
  clear hQ HL HX hO
  have hO := hN
  clear hN
  try simp only []
  have c9_2_5 : uw3.cell? ⟨B1, 5, none⟩ = some (.slice none 0 0) := hO.cell 2 rfl (5) rfl
  have lt9_2 : B1 < uw3.heap.size := hO.lt 2 rfl
  have y9_2 : ∀ o, uw3.frozen? ⟨B1, o, none⟩ = false := hO.free 2 rfl
  have HO := Lib.hid hO
  clear hO
  go_wp2_with (first | (with_reducible refine Own.stay (fn := Tryd.f4) ?_) | (at_builtin; refine Own.appStop ?_) | (first | (go_at_call 17; go_in)))
  try with_reducible refine Own.Stay.mk ?_
  have hO := HO.out
  clear HO c9_2_5 lt9_2 y9_2
  have hL := hO.apart
  have hX := hO.apartX
  have HL := Lib.hid hL
  have HX := Lib.hid hX
  clear hL hX
  have hP9 := hO.pick [0] (by decide)
  have T9 := setCnt nd4 (newPF src 0 nd5 0 B1 B1) (s : Int) (s : Int) (.int .i64 0) (.int .i64 0) _ _ _ hP9 (newPF_287 _ _ _ _ _ _) (newPF_288 _ _ _ _ _ _)
  refine Calls.mono T9 ?_
  clear hP9 T9
  rintro e uw6 ⟨rfl, hQ⟩
  have hN : Own w0 uw6 [row (nd4) 176 (((newPF src 0 nd5 0 B1 B1).setIfInBounds 287 (.int .i64 (s : Int))).setIfInBounds 288 (.int .i64 (s : Int))), row (nd5) 183 (full symZ (symL (zSys 0)) 0), row (B1) 38 #[.pointer none, .pointer none, .slice none 0 0, .map none, .slice none 0 0, .slice none 0 0, .int .i32 0, .int .i32 0, .int .u32 0, .int .u32 0, .bool false, .bool false, .bool false, .bool false, .int .u8 0, .int .u8 6]] X := hQ.back HL.out HX.out [1, 2] (by decide) (by decide)
  clear hQ HL HX hO
  have hO := hN
  clear hN
  try simp only []
  have c9_2_5 : uw6.cell? ⟨B1, 5, none⟩ = some (.slice none 0 0) := hO.cell 2 rfl (5) rfl
  have lt9_2 : B1 < uw6.heap.size := hO.lt 2 rfl
  have y9_2 : ∀ o, uw6.frozen? ⟨B1, o, none⟩ = false := hO.free 2 rfl
  have HO := Lib.hid hO
  clear hO
  go_wp2_with (first | (with_reducible refine Own.stay (fn := Tryd.f4) ?_) | (at_builtin; refine Own.appStop ?_) | (first | (go_at_call 17; go_in)))
  try with_reducible refine Own.Stay.mk ?_
  have hO := HO.out
  clear HO c9_2_5 lt9_2 y9_2
  generalize hW : World.alloc _ _ = W8
  have hN : Own w0 W8 [row (uw6.heap.size + 1 + 1 + 1 + 1) 9 (full strZ [] n), row (uw6.heap.size + 1 + 1 + 1) 9 (full strZ [] n), row (uw6.heap.size + 1 + 1) 33 (full refZ [] n), row (uw6.heap.size + 1) 33 (full refZ [] n), row (uw6.heap.size) 33 (full refZ [] n), row (nd4) 176 (((newPF src 0 nd5 0 B1 B1).setIfInBounds 287 (.int .i64 (s : Int))).setIfInBounds 288 (.int .i64 (s : Int))), row (nd5) 183 (full symZ (symL (zSys 0)) 0), row (B1) 38 #[.pointer none, .pointer none, .slice none 0 0, .map none, .slice none 0 0, .slice none 0 0, .int .i32 0, .int .i32 0, .int .u32 0, .int .u32 0, .bool false, .bool false, .bool false, .bool false, .int .u8 0, .int .u8 6]] X := by
    rw [← hW]
    exact (((((hO).alloc' _ (uw6.heap.size) (by simp)).alloc' _ (uw6.heap.size + 1) (by simp)).alloc' _ (uw6.heap.size + 1 + 1) (by simp)).alloc' _ (uw6.heap.size + 1 + 1 + 1) (by simp)).alloc' _ (uw6.heap.size + 1 + 1 + 1 + 1) (by simp)
  clear hW hO
  generalize uw6.heap.size + 1 + 1 + 1 + 1 = B7_4 at hN ⊢
  generalize uw6.heap.size + 1 + 1 + 1 = B7_3 at hN ⊢
  generalize uw6.heap.size + 1 + 1 = B7_2 at hN ⊢
  generalize uw6.heap.size + 1 = B7_1 at hN ⊢
  generalize uw6.heap.size = B7 at hN ⊢
  have hO := hN
  clear hN
  have hN : Own w0 W8 [row (nd4) 176 (((newPF src 0 nd5 0 B1 B1).setIfInBounds 287 (.int .i64 (s : Int))).setIfInBounds 288 (.int .i64 (s : Int))), row (nd5) 183 (full symZ (symL (zSys 0)) 0), row (B1) 38 #[.pointer none, .pointer none, .slice none 0 0, .map none, .slice none 0 0, .slice none 0 0, .int .i32 0, .int .i32 0, .int .u32 0, .int .u32 0, .bool false, .bool false, .bool false, .bool false, .int .u8 0, .int .u8 6], row (B7) 33 (full refZ [] n), row (B7_1) 33 (full refZ [] n), row (B7_2) 33 (full refZ [] n), row (B7_3) 9 (full strZ [] n), row (B7_4) 9 (full strZ [] n)] X := hO.sub [5, 6, 7, 4, 3, 2, 1, 0] (by decide)
  clear hO
  have hO := hN
  clear hN
  have hz66 : ((((newPF src 0 nd5 0 B1 B1).setIfInBounds 287 (.int .i64 (s : Int))).setIfInBounds 288 (.int .i64 (s : Int))))[66]? = some (.int .u32 src) := (get_other (get_other (newPF_66 _ _ _ _ _ _) (by omega) _) (by omega) _)
  have hz32 : ((((newPF src 0 nd5 0 B1 B1).setIfInBounds 287 (.int .i64 (s : Int))).setIfInBounds 288 (.int .i64 (s : Int))))[32]? = some (.bool false) := (get_other (get_other (newPF_32 _ _ _ _ _ _) (by omega) _) (by omega) _)
  have hz106 : ((((newPF src 0 nd5 0 B1 B1).setIfInBounds 287 (.int .i64 (s : Int))).setIfInBounds 288 (.int .i64 (s : Int))))[106]? = some (.slice (some ⟨nd5, 0, none⟩) 0 0) := (get_other (get_other (newPF_106 _ _ _ _ _ _) (by omega) _) (by omega) _)
  have hz104 : ((((newPF src 0 nd5 0 B1 B1).setIfInBounds 287 (.int .i64 (s : Int))).setIfInBounds 288 (.int .i64 (s : Int))))[104]? = some (.pointer (some ⟨B1, 0, none⟩)) := (get_other (get_other (newPF_104 _ _ _ _ _ _) (by omega) _) (by omega) _)
  have hz187 : ((((newPF src 0 nd5 0 B1 B1).setIfInBounds 287 (.int .i64 (s : Int))).setIfInBounds 288 (.int .i64 (s : Int))))[187]? = some (.pointer (some ⟨B1, 0, none⟩)) := (get_other (get_other (newPF_187 _ _ _ _ _ _) (by omega) _) (by omega) _)
  have hz199 : ((((newPF src 0 nd5 0 B1 B1).setIfInBounds 287 (.int .i64 (s : Int))).setIfInBounds 288 (.int .i64 (s : Int))))[199]? = some (.slice none 0 0) := (get_other (get_other (newPF_199 _ _ _ _ _ _) (by omega) _) (by omega) _)
  have hz287 : ((((newPF src 0 nd5 0 B1 B1).setIfInBounds 287 (.int .i64 (s : Int))).setIfInBounds 288 (.int .i64 (s : Int))))[287]? = some (.int .i64 (s : Int)) := (get_other (get_set (newPF_287 _ _ _ _ _ _) _) (by omega) _)
  have hz200 : ((((newPF src 0 nd5 0 B1 B1).setIfInBounds 287 (.int .i64 (s : Int))).setIfInBounds 288 (.int .i64 (s : Int))))[200]? = some (.slice none 0 0) := (get_other (get_other (newPF_200 _ _ _ _ _ _) (by omega) _) (by omega) _)
  have hz288 : ((((newPF src 0 nd5 0 B1 B1).setIfInBounds 287 (.int .i64 (s : Int))).setIfInBounds 288 (.int .i64 (s : Int))))[288]? = some (.int .i64 (s : Int)) := (get_set (get_other (newPF_288 _ _ _ _ _ _) (by omega) _) _)
  have hz198 : ((((newPF src 0 nd5 0 B1 B1).setIfInBounds 287 (.int .i64 (s : Int))).setIfInBounds 288 (.int .i64 (s : Int))))[198]? = some (.slice none 0 0) := (get_other (get_other (newPF_198 _ _ _ _ _ _) (by omega) _) (by omega) _)
  have hN : Own w0 W8 [row (nd4) 176 (((newPF src 0 nd5 0 B1 B1).setIfInBounds 287 (.int .i64 (s : Int))).setIfInBounds 288 (.int .i64 (s : Int))), row (nd5) 183 (full symZ (symL (stB s B 0)) 0), row (B1) 38 #[.pointer none, .pointer none, .slice none 0 0, .map none, .slice none 0 0, .slice none 0 0, .int .i32 0, .int .i32 0, .int .u32 0, .int .u32 0, .bool false, .bool false, .bool false, .bool false, .int .u8 0, .int .u8 6], row (B7) 33 (full refZ (gL src 0) n), row (B7_1) 33 (full refZ (rS src B true 0) n), row (B7_2) 33 (full refZ (rS src B false 0) n), row (B7_3) 9 (full strZ (tnm s 0) n), row (B7_4) 9 (full strZ (tnm s 0) n)] X := hO
  clear hO
  have hO := hN
  clear hN
  go_loopg [10, 11, 12, 13, 14, 15] n (fun gf s10 s11 s12 s13 s14 s15 wx => ∃ (j a b sb c ba ca bt ct bp cp9 bu cu bv cv qb cq lb cl gb cg : Nat) (PC MC : Array Value), j + gf = n ∧ cn B true j = a ∧ cn B false j = b ∧ (j = 0 → c = 0) ∧ s10 = .slice (some ⟨ba, 0, none⟩) j (j + ca) ∧ s11 = .slice (some ⟨bt, 0, none⟩) a (a + ct) ∧ s12 = .slice (some ⟨bp, 0, none⟩) b (b + cp9) ∧ s13 = .slice (some ⟨bu, 0, none⟩) a (a + cu) ∧ s14 = .slice (some ⟨bv, 0, none⟩) b (b + cv) ∧ s15 = .int .i64 (j : Int) ∧ PC[66]? = some (.int .u32 src) ∧ PC[32]? = some (.bool false) ∧ PC[106]? = some (.slice (some ⟨sb, 0, none⟩) j (j + c)) ∧ PC[104]? = some (.pointer (some ⟨B1, 0, none⟩)) ∧ PC[187]? = some (.pointer (some ⟨B1, 0, none⟩)) ∧ PC[199]? = some (oS a qb cq) ∧ PC[287]? = some (.int .i64 ((s : Int) + (a : Int))) ∧ PC[200]? = some (oS b lb cl) ∧ PC[288]? = some (.int .i64 ((s : Int) + (b : Int))) ∧ PC[198]? = some (.slice none 0 0) ∧ MC[15]? = some (.int .u8 6) ∧ MC[5]? = some (oS j gb cg) ∧ Own w0 wx ([row (nd4) 176 PC, row (sb) 183 (full symZ (symL (stB s B j)) c), row (B1) 38 MC, row (ba) 33 (full refZ (gL src j) ca), row (bt) 33 (full refZ (rS src B true j) ct), row (bp) 33 (full refZ (rS src B false j) cp9), row (bu) 9 (full strZ (tnm s a) cu), row (bv) 9 (full strZ (tnm s b) cv)] ++ (optl a (row (qb) 185 (full trfZ (qS src B true j) cq)) ++ (optl b (row (lb) 185 (full trfZ (qS src B false j) cl)) ++ optl j (row (gb) 33 (full refZ (gL src j) cg))))) X)
  case atStart => exact ⟨0, 0, 0, nd5, 0, B7, n, B7_1, n, B7_2, n, B7_3, n, B7_4, n, 0, 0, 0, 0, 0, 0, (((newPF src 0 nd5 0 B1 B1).setIfInBounds 287 (.int .i64 (s : Int))).setIfInBounds 288 (.int .i64 (s : Int))), #[.pointer none, .pointer none, .slice none 0 0, .map none, .slice none 0 0, .slice none 0 0, .int .i32 0, .int .i32 0, .int .u32 0, .int .u32 0, .bool false, .bool false, .bool false, .bool false, .int .u8 0, .int .u8 6], by omega, rfl, rfl, fun _ => rfl, (by rw [Nat.zero_add]), (by rw [Nat.zero_add]), (by rw [Nat.zero_add]), (by rw [Nat.zero_add]), (by rw [Nat.zero_add]), rfl, hz66, hz32, hz106, hz104, hz187, hz199, (by rw [Int.natCast_zero, Int.add_zero]; exact hz287), hz200, (by rw [Int.natCast_zero, Int.add_zero]; exact hz288), hz198, rfl, rfl, hO.conv (by rw [optl_zero, optl_zero, optl_zero]; rfl)⟩
  obtain ⟨j, a, b, sb, c, ba, ca, bt, ct, bp, cp9, bu, cu, bv, cv, qb, cq, lb, cl, gb, cg, PC, MC, hjn, ha, hb, hc0, rfl, rfl, rfl, rfl, rfl, rfl, hk66, hk32, hk106, hk104, hk187, hk199, hk287, hk200, hk288, hk198, hm15, hm5, hO⟩ := hrel
  clear hz66 hz32 hz106 hz104 hz187 hz199 hz287 hz200 hz288 hz198
  have hcb := cn_both B j
  have HBX1_9 := Lib.hid hO.tail
  have hN := hO.aside
  obtain ⟨X1_9, hX1_9⟩ : ∃ Y, Y = FR (optl a (row (qb) 185 (full trfZ (qS src B true j) cq)) ++ (optl b (row (lb) 185 (full trfZ (qS src B false j) cl)) ++ optl j (row (gb) 33 (full refZ (gL src j) cg)))) X := ⟨_, rfl⟩
  rw [← hX1_9] at hN
  have HX1_9 := Lib.hid hX1_9
  clear hO hX1_9
  have hO := hN
  clear hN
  by_cases hlt : j < n
  · skip
    obtain ⟨gq, rfl⟩ : ∃ gq, gk = gq + 1 := ⟨gk - 1, by omega⟩
    obtain ⟨sa, rfl, hsc⟩ := hB j hlt
    cases hbj : B j
    · skip
      rw [hbj] at hsc
      have htn := tn_size (s + b)
      have htn9 : (2 : Int) ≤ ((tn (s + b)).size : Int) := by omega
      have htp : 0 < (tn (s + b)).size := by omega
      have htc := tn_at0 (s + b) htp
      have hgl := gL_length src j
      have hrt : (rS src B true j).length = a * 2 := by rw [rS_length, ha]
      have hrf : (rS src B false j).length = b * 2 := by rw [rS_length, hb]
      have hut : (tnm s a).length = a * 1 := by rw [tnm_length, Nat.mul_one]
      have huf : (tnm s b).length = b * 1 := by rw [tnm_length, Nat.mul_one]
      have hj9 : (j : Int) < n := by omega
      have hj8 : (0 : Int) ≤ j := by omega
      have hju : IntKind.u32.wrap (j : Int) = (j : Int) := by rw [IntKind.wrap_u32]; omega
      have hsc9 : wr.cell? (sa.add j) = some (.bool false) := Base.cell_belowA hO.below hsc
      go_wp2_with (first | (with_reducible refine Own.stay (fn := Tryd.f4) ?_) | (at_builtin; refine Own.appStop ?_) | (first | (go_at_call 17; go_in)))
      try with_reducible refine Own.Stay.mk ?_
      have HO := Lib.hid hO
      clear hO
      have hO := HO.out
      clear HO hsc9
      generalize hW : World.alloc _ _ = W11
      have hN : Own w0 W11 [row (wr.heap.size) 33 #[.int .u32 0, .int .u32 0], row (nd4) 176 PC, row (sb) 183 (full symZ (symL (stB s B j)) c), row (B1) 38 MC, row (ba) 33 (full refZ (gL src j) ca), row (bt) 33 (full refZ (rS src B true j) ct), row (bp) 33 (full refZ (rS src B false j) cp9), row (bu) 9 (full strZ (tnm s a) cu), row (bv) 9 (full strZ (tnm s b) cv)] X1_9 := by
        rw [← hW]
        exact (hO).alloc' _ (wr.heap.size) (by simp)
      clear hW hO
      generalize wr.heap.size = B10 at hN ⊢
      have hO := hN
      clear hN
      have hN : Own w0 W11 [row (nd4) 176 PC, row (sb) 183 (full symZ (symL (stB s B j)) c), row (B1) 38 MC, row (B10) 33 #[.int .u32 0, .int .u32 0], row (ba) 33 (full refZ (gL src j) ca), row (bt) 33 (full refZ (rS src B true j) ct), row (bp) 33 (full refZ (rS src B false j) cp9), row (bu) 9 (full strZ (tnm s a) cu), row (bv) 9 (full strZ (tnm s b) cv)] X1_9 := hO.sub [1, 2, 3, 0, 4, 5, 6, 7, 8] (by decide)
      clear hO
      have hO := hN
      clear hN
      rw [HX1_9.out] at hO
      have hN := hO.bring HBX1_9.out
      clear hO
      have hO := hN
      clear hN
      have hP9 : Own w0 W11 (([row (nd4) 176 PC, row (sb) 183 (full symZ (symL (stB s B j)) c), row (B1) 38 MC] ++ (optl b (row (lb) 185 (full trfZ (qS src B false j) cl)) ++ optl j (row (gb) 33 (full refZ (gL src j) cg)))) ++ ([row (B10) 33 #[.int .u32 0, .int .u32 0], row (ba) 33 (full refZ (gL src j) ca), row (bt) 33 (full refZ (rS src B true j) ct), row (bp) 33 (full refZ (rS src B false j) cp9), row (bu) 9 (full strZ (tnm s a) cu), row (bv) 9 (full strZ (tnm s b) cv)] ++ optl a (row (qb) 185 (full trfZ (qS src B true j) cq)))) X := hO.perm (permL [row (nd4) 176 PC, row (sb) 183 (full symZ (symL (stB s B j)) c), row (B1) 38 MC] [row (B10) 33 #[.int .u32 0, .int .u32 0], row (ba) 33 (full refZ (gL src j) ca), row (bt) 33 (full refZ (rS src B true j) ct), row (bp) 33 (full refZ (rS src B false j) cp9), row (bu) 9 (full strZ (tnm s a) cu), row (bv) 9 (full strZ (tnm s b) cv)] (optl a (row (qb) 185 (full trfZ (qS src B true j) cq))) (optl b (row (lb) 185 (full trfZ (qS src B false j) cl))) (optl j (row (gb) 33 (full refZ (gL src j) cg))))
      clear hO
      have HT := Lib.hid hP9.tail
      replace hP9 := hP9.aside
      have h9_hbj : B j = false := (by first | assumption | omega | (simp; done) | (simp; omega))
      have h9_hs5 : s ≤ 70000 := (by omega)
      have h9_hj5 : j ≤ 10000 := (by omega)
      have h9_ha : cn B false j = b := (by first | assumption | omega | (simp; done) | (simp; omega))
      have h9_hc0 : j = 0 → c = 0 := (by first | assumption | omega | (simp; done) | (simp; omega))
      have T9 := s6L nd4 PC sb c s B j b src B1 MC (oS a qb cq) (.int .i64 ((s : Int) + (a : Int))) lb cl gb cg _ _ _ hP9 hk66 hk32 hk104 hk187 hk198 hk199 hk287 hk106 hk200 hk288 hm15 hm5 h9_hbj h9_hs5 h9_hj5 h9_ha h9_hc0 hg0 hg1
      refine Calls.mono T9 ?_
      clear hP9 T9 h9_hbj h9_hs5 h9_hj5 h9_ha h9_hc0
      rintro e uw12 ⟨nd13, nd14, nd15, nd16, nd17, nd18, nd19, nd20, rfl, pr21, pr22, pr23, pr24, pr25, pr26, pr27, pr28, pr29, pr30, pr31, pr32, hQ⟩
      replace hQ := hQ.bring HT.out
      clear HT
      have hO : Own w0 uw12 ([row (nd4) 176 nd13, row (nd15) 183 (full symZ (symL (stB s B (j + 1))) nd16), row (B1) 38 nd14, row (B10) 33 #[.int .u32 0, .int .u32 0], row (ba) 33 (full refZ (gL src j) ca), row (bt) 33 (full refZ (rS src B true j) ct), row (bp) 33 (full refZ (rS src B false j) cp9), row (bu) 9 (full strZ (tnm s a) cu), row (bv) 9 (full strZ (tnm s b) cv)] ++ (optl a (row (qb) 185 (full trfZ (qS src B true j) cq)) ++ (optl (b + 1) (row (nd17) 185 (full trfZ (qS src B false (j + 1)) nd18)) ++ optl (j + 1) (row (nd19) 33 (full refZ (gL src (j + 1)) nd20))))) X := hQ.perm (permL [row (nd4) 176 nd13, row (nd15) 183 (full symZ (symL (stB s B (j + 1))) nd16), row (B1) 38 nd14] [row (B10) 33 #[.int .u32 0, .int .u32 0], row (ba) 33 (full refZ (gL src j) ca), row (bt) 33 (full refZ (rS src B true j) ct), row (bp) 33 (full refZ (rS src B false j) cp9), row (bu) 9 (full strZ (tnm s a) cu), row (bv) 9 (full strZ (tnm s b) cv)] (optl a (row (qb) 185 (full trfZ (qS src B true j) cq))) (optl (b + 1) (row (nd17) 185 (full trfZ (qS src B false (j + 1)) nd18))) (optl (j + 1) (row (nd19) 33 (full refZ (gL src (j + 1)) nd20)))).symm
      clear hQ
      try simp only []
      have HBX1_33 := Lib.hid hO.tail
      have hN := hO.aside
      obtain ⟨X1_33, hX1_33⟩ : ∃ Y, Y = FR (optl a (row (qb) 185 (full trfZ (qS src B true j) cq)) ++ (optl (b + 1) (row (nd17) 185 (full trfZ (qS src B false (j + 1)) nd18)) ++ optl (j + 1) (row (nd19) 33 (full refZ (gL src (j + 1)) nd20)))) X := ⟨_, rfl⟩
      rw [← hX1_33] at hN
      have HX1_33 := Lib.hid hX1_33
      clear hO hX1_33
      have hO := hN
      clear hN
      obtain ⟨c9_3_0, c9_3_1, lt9_3, y9_3, -⟩ := hO.k2 3 rfl
      have HO := Lib.hid hO
      clear hO
      have hsc9 : uw12.cell? (sa.add j) = some (.bool false) := Base.cell_belowA HO.out.below hsc
      go_wp2_with (first | (with_reducible refine Own.stay (fn := Tryd.f4) ?_) | (at_builtin; refine Own.appStop ?_) | (first | (go_at_call 17; go_in)))
      try with_reducible refine Own.Stay.mk ?_
      have hO := HO.out
      clear HO hsc9 c9_3_0 c9_3_1 lt9_3 y9_3
      generalize hW : World.alloc _ _ = W35
      have hN : Own w0 W35 [row (uw12.heap.size) 33 #[.int .u32 src, .int .u32 (j : Int)], row (nd4) 176 nd13, row (nd15) 183 (full symZ (symL (stB s B (j + 1))) nd16), row (B1) 38 nd14, row (B10) 33 #[.int .u32 src, .int .u32 (j : Int)], row (ba) 33 (full refZ (gL src j) ca), row (bt) 33 (full refZ (rS src B true j) ct), row (bp) 33 (full refZ (rS src B false j) cp9), row (bu) 9 (full strZ (tnm s a) cu), row (bv) 9 (full strZ (tnm s b) cv)] X1_33 := by
        rw [← hW]
        exact (((hO).set 3 rfl 0 _).set 3 rfl 1 _).alloc' _ (uw12.heap.size) (by simp)
      clear hW hO
      generalize uw12.heap.size = B34 at hN ⊢
      have hO := hN
      clear hN
      refine Own.AppStop.mk ?_
      obtain ⟨i9, hi9, z1, z2, z3⟩ := info_parts infoRef
      have hL := hO.apart
      have hX := hO.apartX
      have HL := Lib.hid hL
      have HX := Lib.hid hX
      clear hL hX
      have hP9 := hO.pick [5, 0] (by decide)
      refine Own.wpList_append_full rfl (.tmp 79) (.tmp 81) 29 rfl 33 i9 (.agg refZ) 2 8 Tryd.underlying29 hi9 z1 z2 z3 rfl (by decide) hP9 rfl rfl (by first | rfl | assumption | (simp; done) | (simp; omega)) (by first | rfl | assumption | omega) rfl (oneAll rfl) (by first | decide | omega | (unfold maxLen; omega)) (by first | decide | omega | (unfold maxLen; omega)) ?_
      intro nd36 nc37 u38 hQ
      clear hP9
      have hN : Own w0 u38 [row (nd36) 33 (full refZ ((gL src j) ++ [.int .u32 src, .int .u32 (j : Int)]) nc37), row (B34) 33 #[.int .u32 src, .int .u32 (j : Int)], row (nd4) 176 nd13, row (nd15) 183 (full symZ (symL (stB s B (j + 1))) nd16), row (B1) 38 nd14, row (B10) 33 #[.int .u32 src, .int .u32 (j : Int)], row (bt) 33 (full refZ (rS src B true j) ct), row (bp) 33 (full refZ (rS src B false j) cp9), row (bu) 9 (full strZ (tnm s a) cu), row (bv) 9 (full strZ (tnm s b) cv)] X1_33 := hQ.back HL.out HX.out [1, 2, 3, 4, 6, 7, 8, 9] (by decide) (by decide)
      clear hQ HL HX hO
      have hO := hN
      clear hN
      obtain ⟨c9_1_0, c9_1_1, lt9_1, y9_1, -⟩ := hO.k2 1 rfl
      obtain ⟨c9_5_0, c9_5_1, lt9_5, y9_5, -⟩ := hO.k2 5 rfl
      have HO := Lib.hid hO
      clear hO
      have hsc9 : u38.cell? (sa.add j) = some (.bool false) := Base.cell_belowA HO.out.below hsc
      go_wp2_with (first | (with_reducible refine Own.stay (fn := Tryd.f4) ?_) | (at_builtin; refine Own.appStop ?_) | (first | (go_at_call 17; go_in)))
      try with_reducible refine Own.Stay.mk ?_
      have hO := HO.out
      clear HO hsc9 c9_1_0 c9_1_1 lt9_1 y9_1 c9_5_0 c9_5_1 lt9_5 y9_5
      have hL := hO.apart
      have hX := hO.apartX
      have HL := Lib.hid hL
      have HX := Lib.hid hX
      clear hL hX
      have hP9 := hO.pick [2, 3] (by decide)
      have h9_hbj : B j = false := (by first | assumption | omega | (simp; done) | (simp; omega))
      have h9_hj5 : j ≤ 100000 := (by omega)
      have T9 := snmL11 nd4 nd13 nd15 nd16 s B j _ _ _ _ hP9 pr28 h9_hbj h9_hj5 (by first | assumption | omega | (simp; done) | (simp; omega))
      refine Calls.mono T9 ?_
      clear hP9 T9 h9_hbj h9_hj5
      rintro e uw39 ⟨rfl, hQ⟩
      have hN : Own w0 uw39 [row (nd4) 176 nd13, row (nd15) 183 (full symZ (symL (stB s B (j + 1))) nd16), row (nd36) 33 (full refZ ((gL src j) ++ [.int .u32 src, .int .u32 (j : Int)]) nc37), row (B34) 33 #[.int .u32 src, .int .u32 (j : Int)], row (B1) 38 nd14, row (B10) 33 #[.int .u32 src, .int .u32 (j : Int)], row (bt) 33 (full refZ (rS src B true j) ct), row (bp) 33 (full refZ (rS src B false j) cp9), row (bu) 9 (full strZ (tnm s a) cu), row (bv) 9 (full strZ (tnm s b) cv)] X1_33 := hQ.back HL.out HX.out [0, 1, 4, 5, 6, 7, 8, 9] (by decide) (by decide)
      clear hQ HL HX hO
      have hO := hN
      clear hN
      try simp only []
      obtain ⟨c9_3_0, c9_3_1, lt9_3, y9_3, -⟩ := hO.k2 3 rfl
      obtain ⟨c9_5_0, c9_5_1, lt9_5, y9_5, -⟩ := hO.k2 5 rfl
      have HO := Lib.hid hO
      clear hO
      have hsc9 : uw39.cell? (sa.add j) = some (.bool false) := Base.cell_belowA HO.out.below hsc
      go_wp2_with (first | (with_reducible refine Own.stay (fn := Tryd.f4) ?_) | (at_builtin; refine Own.appStop ?_) | (first | (go_at_call 17; go_in)))
      try with_reducible refine Own.Stay.mk ?_
      have hO := HO.out
      clear HO hsc9 c9_3_0 c9_3_1 lt9_3 y9_3 c9_5_0 c9_5_1 lt9_5 y9_5
      generalize hW : World.alloc _ _ = W41
      have hN : Own w0 W41 [row (uw39.heap.size) 33 #[.int .u32 src, .int .u32 (j : Int)], row (nd4) 176 nd13, row (nd15) 183 (full symZ (symL (stB s B (j + 1))) nd16), row (nd36) 33 (full refZ ((gL src j) ++ [.int .u32 src, .int .u32 (j : Int)]) nc37), row (B34) 33 #[.int .u32 src, .int .u32 (j : Int)], row (B1) 38 nd14, row (B10) 33 #[.int .u32 src, .int .u32 (j : Int)], row (bt) 33 (full refZ (rS src B true j) ct), row (bp) 33 (full refZ (rS src B false j) cp9), row (bu) 9 (full strZ (tnm s a) cu), row (bv) 9 (full strZ (tnm s b) cv)] X1_33 := by
        rw [← hW]
        exact (hO).alloc' _ (uw39.heap.size) (by simp)
      clear hW hO
      generalize uw39.heap.size = B40 at hN ⊢
      have hO := hN
      clear hN
      refine Own.AppStop.mk ?_
      obtain ⟨i9, hi9, z1, z2, z3⟩ := info_parts infoRef
      have hL := hO.apart
      have hX := hO.apartX
      have HL := Lib.hid hL
      have HX := Lib.hid hX
      clear hL hX
      have hP9 := hO.pick [8, 0] (by decide)
      refine Own.wpList_append_full rfl (.tmp 106) (.tmp 108) 29 rfl 33 i9 (.agg refZ) 2 8 Tryd.underlying29 hi9 z1 z2 z3 rfl (by decide) hP9 rfl rfl (by first | rfl | assumption | (simp; done) | (simp; omega)) (by first | rfl | assumption | omega) rfl (oneAll rfl) (by first | decide | omega | (unfold maxLen; omega)) (by first | decide | omega | (unfold maxLen; omega)) ?_
      intro nd42 nc43 u44 hQ
      clear hP9
      have hN : Own w0 u44 [row (nd42) 33 (full refZ ((rS src B false j) ++ [.int .u32 src, .int .u32 (j : Int)]) nc43), row (B40) 33 #[.int .u32 src, .int .u32 (j : Int)], row (nd4) 176 nd13, row (nd15) 183 (full symZ (symL (stB s B (j + 1))) nd16), row (nd36) 33 (full refZ ((gL src j) ++ [.int .u32 src, .int .u32 (j : Int)]) nc37), row (B34) 33 #[.int .u32 src, .int .u32 (j : Int)], row (B1) 38 nd14, row (B10) 33 #[.int .u32 src, .int .u32 (j : Int)], row (bt) 33 (full refZ (rS src B true j) ct), row (bu) 9 (full strZ (tnm s a) cu), row (bv) 9 (full strZ (tnm s b) cv)] X1_33 := hQ.back HL.out HX.out [1, 2, 3, 4, 5, 6, 7, 9, 10] (by decide) (by decide)
      clear hQ HL HX hO
      have hO := hN
      clear hN
      obtain ⟨c9_1_0, c9_1_1, lt9_1, y9_1, -⟩ := hO.k2 1 rfl
      obtain ⟨c9_5_0, c9_5_1, lt9_5, y9_5, -⟩ := hO.k2 5 rfl
      obtain ⟨c9_7_0, c9_7_1, lt9_7, y9_7, -⟩ := hO.k2 7 rfl
      have HO := Lib.hid hO
      clear hO
      have hsc9 : u44.cell? (sa.add j) = some (.bool false) := Base.cell_belowA HO.out.below hsc
      go_wp2_with (first | (with_reducible refine Own.stay (fn := Tryd.f4) ?_) | (at_builtin; refine Own.appStop ?_) | (first | (go_at_call 17; go_in)))
      try with_reducible refine Own.Stay.mk ?_
      have hO := HO.out
      clear HO hsc9 c9_1_0 c9_1_1 lt9_1 y9_1 c9_5_0 c9_5_1 lt9_5 y9_5 c9_7_0 c9_7_1 lt9_7 y9_7
      generalize hW : World.alloc _ _ = W46
      have hN : Own w0 W46 [row (u44.heap.size) 9 #[.string (tn (s + b))], row (nd42) 33 (full refZ ((rS src B false j) ++ [.int .u32 src, .int .u32 (j : Int)]) nc43), row (B40) 33 #[.int .u32 src, .int .u32 (j : Int)], row (nd4) 176 nd13, row (nd15) 183 (full symZ (symL (stB s B (j + 1))) nd16), row (nd36) 33 (full refZ ((gL src j) ++ [.int .u32 src, .int .u32 (j : Int)]) nc37), row (B34) 33 #[.int .u32 src, .int .u32 (j : Int)], row (B1) 38 nd14, row (B10) 33 #[.int .u32 src, .int .u32 (j : Int)], row (bt) 33 (full refZ (rS src B true j) ct), row (bu) 9 (full strZ (tnm s a) cu), row (bv) 9 (full strZ (tnm s b) cv)] X1_33 := by
        rw [← hW]
        exact (hO).alloc' _ (u44.heap.size) (by simp)
      clear hW hO
      generalize u44.heap.size = B45 at hN ⊢
      have hO := hN
      clear hN
      refine Own.AppStop.mk ?_
      obtain ⟨i9, hi9, z1, z2, z3⟩ := info_parts infoStr
      have hL := hO.apart
      have hX := hO.apartX
      have HL := Lib.hid hL
      have HX := Lib.hid hX
      clear hL hX
      have hP9 := hO.pick [11, 0] (by decide)
      refine Own.wpList_append_full rfl (.tmp 110) (.tmp 112) 51 rfl 9 i9 (.string ⟨#[]⟩) 1 16 Tryd.underlying51 hi9 z1 z2 z3 rfl (by decide) hP9 rfl rfl (by first | rfl | assumption | (simp; done) | (simp; omega)) (by first | rfl | assumption | omega) rfl (oneAll rfl) (by first | decide | omega | (unfold maxLen; omega)) (by first | decide | omega | (unfold maxLen; omega)) ?_
      intro nd47 nc48 u49 hQ
      clear hP9
      have hN : Own w0 u49 [row (nd47) 9 (full strZ ((tnm s b) ++ [.string (tn (s + b))]) nc48), row (B45) 9 #[.string (tn (s + b))], row (nd42) 33 (full refZ ((rS src B false j) ++ [.int .u32 src, .int .u32 (j : Int)]) nc43), row (B40) 33 #[.int .u32 src, .int .u32 (j : Int)], row (nd4) 176 nd13, row (nd15) 183 (full symZ (symL (stB s B (j + 1))) nd16), row (nd36) 33 (full refZ ((gL src j) ++ [.int .u32 src, .int .u32 (j : Int)]) nc37), row (B34) 33 #[.int .u32 src, .int .u32 (j : Int)], row (B1) 38 nd14, row (B10) 33 #[.int .u32 src, .int .u32 (j : Int)], row (bt) 33 (full refZ (rS src B true j) ct), row (bu) 9 (full strZ (tnm s a) cu)] X1_33 := hQ.back HL.out HX.out [1, 2, 3, 4, 5, 6, 7, 8, 9, 10] (by decide) (by decide)
      clear hQ HL HX hO
      have hO := hN
      clear hN
      obtain ⟨c9_1_0, lt9_1, y9_1, -⟩ := hO.k1 1 rfl
      obtain ⟨c9_3_0, c9_3_1, lt9_3, y9_3, -⟩ := hO.k2 3 rfl
      obtain ⟨c9_7_0, c9_7_1, lt9_7, y9_7, -⟩ := hO.k2 7 rfl
      obtain ⟨c9_9_0, c9_9_1, lt9_9, y9_9, -⟩ := hO.k2 9 rfl
      have HO := Lib.hid hO
      clear hO
      have hsc9 : u49.cell? (sa.add j) = some (.bool false) := Base.cell_belowA HO.out.below hsc
      go_wp2_with (first | (with_reducible refine Own.stay (fn := Tryd.f4) ?_) | (at_builtin; refine Own.appStop ?_) | (first | (go_at_call 17; go_in)))
      try with_reducible refine Own.Stay.mk ?_
      have hO := HO.out
      clear HO hsc9 c9_1_0 lt9_1 y9_1 c9_3_0 c9_3_1 lt9_3 y9_3 c9_7_0 c9_7_1 lt9_7 y9_7 c9_9_0 c9_9_1 lt9_9 y9_9
      have hN : Own w0 u49 [row (nd4) 176 nd13, row (nd15) 183 (full symZ (symL (stB s B (j + 1))) nd16), row (B1) 38 nd14, row (nd36) 33 (full refZ ((gL src j) ++ [.int .u32 src, .int .u32 (j : Int)]) nc37), row (bt) 33 (full refZ (rS src B true j) ct), row (nd42) 33 (full refZ ((rS src B false j) ++ [.int .u32 src, .int .u32 (j : Int)]) nc43), row (bu) 9 (full strZ (tnm s a) cu), row (nd47) 9 (full strZ ((tnm s b) ++ [.string (tn (s + b))]) nc48)] X1_33 := hO.sub [4, 5, 8, 6, 10, 2, 11, 0] (by decide)
      clear hO
      have hO := hN
      clear hN
      have hng : ¬ B j = true := (by rw [hbj]; decide)
      rw [HX1_33.out] at hO
      have hN := hO.bring HBX1_33.out
      clear hO
      have hO := hN
      clear hN
      go_roundg gq
      case measure => omega
      case rel => exact ⟨j + 1, a, b + 1, nd15, nd16, nd36, nc37, bt, ct, nd42, nc43, bu, cu, nd47, nc48, qb, cq, nd17, nd18, nd19, nd20, nd13, nd14, by omega, (by rw [cn_no hng, ha]), (by rw [cn_yes hbj, hb]), fun h => absurd h (Nat.succ_ne_zero _), rfl, rfl, rfl, rfl, rfl, (by first | rfl | simp), pr21, pr22, pr28, pr23, pr24, pr26, pr27, pr29, (by rw [show ((s : Int) + ((b + 1 : Nat) : Int)) = (s : Int) + (b : Int) + 1 by omega]; exact pr30), pr25, pr31, pr32, hO.conv (by rw [gL_succ, rS_yes hbj, rS_no hng, qS_no hng, tnm_succ])⟩
    · skip
      rw [hbj] at hsc
      have htn := tn_size (s + a)
      have htn9 : (2 : Int) ≤ ((tn (s + a)).size : Int) := by omega
      have htp : 0 < (tn (s + a)).size := by omega
      have htc := tn_at0 (s + a) htp
      have hgl := gL_length src j
      have hrt : (rS src B true j).length = a * 2 := by rw [rS_length, ha]
      have hrf : (rS src B false j).length = b * 2 := by rw [rS_length, hb]
      have hut : (tnm s a).length = a * 1 := by rw [tnm_length, Nat.mul_one]
      have huf : (tnm s b).length = b * 1 := by rw [tnm_length, Nat.mul_one]
      have hj9 : (j : Int) < n := by omega
      have hj8 : (0 : Int) ≤ j := by omega
      have hju : IntKind.u32.wrap (j : Int) = (j : Int) := by rw [IntKind.wrap_u32]; omega
      have hsc9 : wr.cell? (sa.add j) = some (.bool true) := Base.cell_belowA hO.below hsc
      go_wp2_with (first | (with_reducible refine Own.stay (fn := Tryd.f4) ?_) | (at_builtin; refine Own.appStop ?_) | (first | (go_at_call 17; go_in)))
      try with_reducible refine Own.Stay.mk ?_
      have HO := Lib.hid hO
      clear hO
      have hO := HO.out
      clear HO hsc9
      generalize hW : World.alloc _ _ = W51
      have hN : Own w0 W51 [row (wr.heap.size) 33 #[.int .u32 0, .int .u32 0], row (nd4) 176 PC, row (sb) 183 (full symZ (symL (stB s B j)) c), row (B1) 38 MC, row (ba) 33 (full refZ (gL src j) ca), row (bt) 33 (full refZ (rS src B true j) ct), row (bp) 33 (full refZ (rS src B false j) cp9), row (bu) 9 (full strZ (tnm s a) cu), row (bv) 9 (full strZ (tnm s b) cv)] X1_9 := by
        rw [← hW]
        exact (hO).alloc' _ (wr.heap.size) (by simp)
      clear hW hO
      generalize wr.heap.size = B50 at hN ⊢
      have hO := hN
      clear hN
      have hN : Own w0 W51 [row (nd4) 176 PC, row (sb) 183 (full symZ (symL (stB s B j)) c), row (B1) 38 MC, row (B50) 33 #[.int .u32 0, .int .u32 0], row (ba) 33 (full refZ (gL src j) ca), row (bt) 33 (full refZ (rS src B true j) ct), row (bp) 33 (full refZ (rS src B false j) cp9), row (bu) 9 (full strZ (tnm s a) cu), row (bv) 9 (full strZ (tnm s b) cv)] X1_9 := hO.sub [1, 2, 3, 0, 4, 5, 6, 7, 8] (by decide)
      clear hO
      have hO := hN
      clear hN
      rw [HX1_9.out] at hO
      have hN := hO.bring HBX1_9.out
      clear hO
      have hO := hN
      clear hN
      have hP9 : Own w0 W51 (([row (nd4) 176 PC, row (sb) 183 (full symZ (symL (stB s B j)) c), row (B1) 38 MC] ++ (optl a (row (qb) 185 (full trfZ (qS src B true j) cq)) ++ optl j (row (gb) 33 (full refZ (gL src j) cg)))) ++ ([row (B50) 33 #[.int .u32 0, .int .u32 0], row (ba) 33 (full refZ (gL src j) ca), row (bt) 33 (full refZ (rS src B true j) ct), row (bp) 33 (full refZ (rS src B false j) cp9), row (bu) 9 (full strZ (tnm s a) cu), row (bv) 9 (full strZ (tnm s b) cv)] ++ optl b (row (lb) 185 (full trfZ (qS src B false j) cl)))) X := hO.perm (permR [row (nd4) 176 PC, row (sb) 183 (full symZ (symL (stB s B j)) c), row (B1) 38 MC] [row (B50) 33 #[.int .u32 0, .int .u32 0], row (ba) 33 (full refZ (gL src j) ca), row (bt) 33 (full refZ (rS src B true j) ct), row (bp) 33 (full refZ (rS src B false j) cp9), row (bu) 9 (full strZ (tnm s a) cu), row (bv) 9 (full strZ (tnm s b) cv)] (optl a (row (qb) 185 (full trfZ (qS src B true j) cq))) (optl b (row (lb) 185 (full trfZ (qS src B false j) cl))) (optl j (row (gb) 33 (full refZ (gL src j) cg))))
      clear hO
      have HT := Lib.hid hP9.tail
      replace hP9 := hP9.aside
      have h9_hbj : B j = true := (by first | assumption | omega | (simp; done) | (simp; omega))
      have h9_hs5 : s ≤ 70000 := (by omega)
      have h9_hj5 : j ≤ 10000 := (by omega)
      have h9_ha : cn B true j = a := (by first | assumption | omega | (simp; done) | (simp; omega))
      have h9_hc0 : j = 0 → c = 0 := (by first | assumption | omega | (simp; done) | (simp; omega))
      have T9 := s6R nd4 PC sb c s B j a src B1 MC (oS b lb cl) (.int .i64 ((s : Int) + (b : Int))) qb cq gb cg _ _ _ hP9 hk66 hk32 hk104 hk187 hk198 hk200 hk288 hk106 hk199 hk287 hm15 hm5 h9_hbj h9_hs5 h9_hj5 h9_ha h9_hc0 hg0 hg1
      refine Calls.mono T9 ?_
      clear hP9 T9 h9_hbj h9_hs5 h9_hj5 h9_ha h9_hc0
      rintro e uw52 ⟨nd53, nd54, nd55, nd56, nd57, nd58, nd59, nd60, rfl, pr61, pr62, pr63, pr64, pr65, pr66, pr67, pr68, pr69, pr70, pr71, pr72, hQ⟩
      replace hQ := hQ.bring HT.out
      clear HT
      have hO : Own w0 uw52 ([row (nd4) 176 nd53, row (nd55) 183 (full symZ (symL (stB s B (j + 1))) nd56), row (B1) 38 nd54, row (B50) 33 #[.int .u32 0, .int .u32 0], row (ba) 33 (full refZ (gL src j) ca), row (bt) 33 (full refZ (rS src B true j) ct), row (bp) 33 (full refZ (rS src B false j) cp9), row (bu) 9 (full strZ (tnm s a) cu), row (bv) 9 (full strZ (tnm s b) cv)] ++ (optl (a + 1) (row (nd57) 185 (full trfZ (qS src B true (j + 1)) nd58)) ++ (optl b (row (lb) 185 (full trfZ (qS src B false j) cl)) ++ optl (j + 1) (row (nd59) 33 (full refZ (gL src (j + 1)) nd60))))) X := hQ.perm (permR [row (nd4) 176 nd53, row (nd55) 183 (full symZ (symL (stB s B (j + 1))) nd56), row (B1) 38 nd54] [row (B50) 33 #[.int .u32 0, .int .u32 0], row (ba) 33 (full refZ (gL src j) ca), row (bt) 33 (full refZ (rS src B true j) ct), row (bp) 33 (full refZ (rS src B false j) cp9), row (bu) 9 (full strZ (tnm s a) cu), row (bv) 9 (full strZ (tnm s b) cv)] (optl (a + 1) (row (nd57) 185 (full trfZ (qS src B true (j + 1)) nd58))) (optl b (row (lb) 185 (full trfZ (qS src B false j) cl))) (optl (j + 1) (row (nd59) 33 (full refZ (gL src (j + 1)) nd60)))).symm
      clear hQ
      try simp only []
      have HBX1_73 := Lib.hid hO.tail
      have hN := hO.aside
      obtain ⟨X1_73, hX1_73⟩ : ∃ Y, Y = FR (optl (a + 1) (row (nd57) 185 (full trfZ (qS src B true (j + 1)) nd58)) ++ (optl b (row (lb) 185 (full trfZ (qS src B false j) cl)) ++ optl (j + 1) (row (nd59) 33 (full refZ (gL src (j + 1)) nd60)))) X := ⟨_, rfl⟩
      rw [← hX1_73] at hN
      have HX1_73 := Lib.hid hX1_73
      clear hO hX1_73
      have hO := hN
      clear hN
      obtain ⟨c9_3_0, c9_3_1, lt9_3, y9_3, -⟩ := hO.k2 3 rfl
      have HO := Lib.hid hO
      clear hO
      have hsc9 : uw52.cell? (sa.add j) = some (.bool true) := Base.cell_belowA HO.out.below hsc
      go_wp2_with (first | (with_reducible refine Own.stay (fn := Tryd.f4) ?_) | (at_builtin; refine Own.appStop ?_) | (first | (go_at_call 17; go_in)))
      try with_reducible refine Own.Stay.mk ?_
      have hO := HO.out
      clear HO hsc9 c9_3_0 c9_3_1 lt9_3 y9_3
      generalize hW : World.alloc _ _ = W75
      have hN : Own w0 W75 [row (uw52.heap.size) 33 #[.int .u32 src, .int .u32 (j : Int)], row (nd4) 176 nd53, row (nd55) 183 (full symZ (symL (stB s B (j + 1))) nd56), row (B1) 38 nd54, row (B50) 33 #[.int .u32 src, .int .u32 (j : Int)], row (ba) 33 (full refZ (gL src j) ca), row (bt) 33 (full refZ (rS src B true j) ct), row (bp) 33 (full refZ (rS src B false j) cp9), row (bu) 9 (full strZ (tnm s a) cu), row (bv) 9 (full strZ (tnm s b) cv)] X1_73 := by
        rw [← hW]
        exact (((hO).set 3 rfl 0 _).set 3 rfl 1 _).alloc' _ (uw52.heap.size) (by simp)
      clear hW hO
      generalize uw52.heap.size = B74 at hN ⊢
      have hO := hN
      clear hN
      refine Own.AppStop.mk ?_
      obtain ⟨i9, hi9, z1, z2, z3⟩ := info_parts infoRef
      have hL := hO.apart
      have hX := hO.apartX
      have HL := Lib.hid hL
      have HX := Lib.hid hX
      clear hL hX
      have hP9 := hO.pick [5, 0] (by decide)
      refine Own.wpList_append_full rfl (.tmp 79) (.tmp 81) 29 rfl 33 i9 (.agg refZ) 2 8 Tryd.underlying29 hi9 z1 z2 z3 rfl (by decide) hP9 rfl rfl (by first | rfl | assumption | (simp; done) | (simp; omega)) (by first | rfl | assumption | omega) rfl (oneAll rfl) (by first | decide | omega | (unfold maxLen; omega)) (by first | decide | omega | (unfold maxLen; omega)) ?_
      intro nd76 nc77 u78 hQ
      clear hP9
      have hN : Own w0 u78 [row (nd76) 33 (full refZ ((gL src j) ++ [.int .u32 src, .int .u32 (j : Int)]) nc77), row (B74) 33 #[.int .u32 src, .int .u32 (j : Int)], row (nd4) 176 nd53, row (nd55) 183 (full symZ (symL (stB s B (j + 1))) nd56), row (B1) 38 nd54, row (B50) 33 #[.int .u32 src, .int .u32 (j : Int)], row (bt) 33 (full refZ (rS src B true j) ct), row (bp) 33 (full refZ (rS src B false j) cp9), row (bu) 9 (full strZ (tnm s a) cu), row (bv) 9 (full strZ (tnm s b) cv)] X1_73 := hQ.back HL.out HX.out [1, 2, 3, 4, 6, 7, 8, 9] (by decide) (by decide)
      clear hQ HL HX hO
      have hO := hN
      clear hN
      obtain ⟨c9_1_0, c9_1_1, lt9_1, y9_1, -⟩ := hO.k2 1 rfl
      obtain ⟨c9_5_0, c9_5_1, lt9_5, y9_5, -⟩ := hO.k2 5 rfl
      have HO := Lib.hid hO
      clear hO
      have hsc9 : u78.cell? (sa.add j) = some (.bool true) := Base.cell_belowA HO.out.below hsc
      go_wp2_with (first | (with_reducible refine Own.stay (fn := Tryd.f4) ?_) | (at_builtin; refine Own.appStop ?_) | (first | (go_at_call 17; go_in)))
      try with_reducible refine Own.Stay.mk ?_
      have hO := HO.out
      clear HO hsc9 c9_1_0 c9_1_1 lt9_1 y9_1 c9_5_0 c9_5_1 lt9_5 y9_5
      have hL := hO.apart
      have hX := hO.apartX
      have HL := Lib.hid hL
      have HX := Lib.hid hX
      clear hL hX
      have hP9 := hO.pick [2, 3] (by decide)
      have h9_hbj : B j = true := (by first | assumption | omega | (simp; done) | (simp; omega))
      have h9_hj5 : j ≤ 100000 := (by omega)
      have T9 := snmR11 nd4 nd53 nd55 nd56 s B j _ _ _ _ hP9 pr68 h9_hbj h9_hj5 (by first | assumption | omega | (simp; done) | (simp; omega))
      refine Calls.mono T9 ?_
      clear hP9 T9 h9_hbj h9_hj5
      rintro e uw79 ⟨rfl, hQ⟩
      have hN : Own w0 uw79 [row (nd4) 176 nd53, row (nd55) 183 (full symZ (symL (stB s B (j + 1))) nd56), row (nd76) 33 (full refZ ((gL src j) ++ [.int .u32 src, .int .u32 (j : Int)]) nc77), row (B74) 33 #[.int .u32 src, .int .u32 (j : Int)], row (B1) 38 nd54, row (B50) 33 #[.int .u32 src, .int .u32 (j : Int)], row (bt) 33 (full refZ (rS src B true j) ct), row (bp) 33 (full refZ (rS src B false j) cp9), row (bu) 9 (full strZ (tnm s a) cu), row (bv) 9 (full strZ (tnm s b) cv)] X1_73 := hQ.back HL.out HX.out [0, 1, 4, 5, 6, 7, 8, 9] (by decide) (by decide)
      clear hQ HL HX hO
      have hO := hN
      clear hN
      try simp only []
      obtain ⟨c9_3_0, c9_3_1, lt9_3, y9_3, -⟩ := hO.k2 3 rfl
      obtain ⟨c9_5_0, c9_5_1, lt9_5, y9_5, -⟩ := hO.k2 5 rfl
      have HO := Lib.hid hO
      clear hO
      have hsc9 : uw79.cell? (sa.add j) = some (.bool true) := Base.cell_belowA HO.out.below hsc
      go_wp2_with (first | (with_reducible refine Own.stay (fn := Tryd.f4) ?_) | (at_builtin; refine Own.appStop ?_) | (first | (go_at_call 17; go_in)))
      try with_reducible refine Own.Stay.mk ?_
      have hO := HO.out
      clear HO hsc9 c9_3_0 c9_3_1 lt9_3 y9_3 c9_5_0 c9_5_1 lt9_5 y9_5
      generalize hW : World.alloc _ _ = W81
      have hN : Own w0 W81 [row (uw79.heap.size) 33 #[.int .u32 src, .int .u32 (j : Int)], row (nd4) 176 nd53, row (nd55) 183 (full symZ (symL (stB s B (j + 1))) nd56), row (nd76) 33 (full refZ ((gL src j) ++ [.int .u32 src, .int .u32 (j : Int)]) nc77), row (B74) 33 #[.int .u32 src, .int .u32 (j : Int)], row (B1) 38 nd54, row (B50) 33 #[.int .u32 src, .int .u32 (j : Int)], row (bt) 33 (full refZ (rS src B true j) ct), row (bp) 33 (full refZ (rS src B false j) cp9), row (bu) 9 (full strZ (tnm s a) cu), row (bv) 9 (full strZ (tnm s b) cv)] X1_73 := by
        rw [← hW]
        exact (hO).alloc' _ (uw79.heap.size) (by simp)
      clear hW hO
      generalize uw79.heap.size = B80 at hN ⊢
      have hO := hN
      clear hN
      refine Own.AppStop.mk ?_
      obtain ⟨i9, hi9, z1, z2, z3⟩ := info_parts infoRef
      have hL := hO.apart
      have hX := hO.apartX
      have HL := Lib.hid hL
      have HX := Lib.hid hX
      clear hL hX
      have hP9 := hO.pick [7, 0] (by decide)
      refine Own.wpList_append_full rfl (.tmp 98) (.tmp 100) 29 rfl 33 i9 (.agg refZ) 2 8 Tryd.underlying29 hi9 z1 z2 z3 rfl (by decide) hP9 rfl rfl (by first | rfl | assumption | (simp; done) | (simp; omega)) (by first | rfl | assumption | omega) rfl (oneAll rfl) (by first | decide | omega | (unfold maxLen; omega)) (by first | decide | omega | (unfold maxLen; omega)) ?_
      intro nd82 nc83 u84 hQ
      clear hP9
      have hN : Own w0 u84 [row (nd82) 33 (full refZ ((rS src B true j) ++ [.int .u32 src, .int .u32 (j : Int)]) nc83), row (B80) 33 #[.int .u32 src, .int .u32 (j : Int)], row (nd4) 176 nd53, row (nd55) 183 (full symZ (symL (stB s B (j + 1))) nd56), row (nd76) 33 (full refZ ((gL src j) ++ [.int .u32 src, .int .u32 (j : Int)]) nc77), row (B74) 33 #[.int .u32 src, .int .u32 (j : Int)], row (B1) 38 nd54, row (B50) 33 #[.int .u32 src, .int .u32 (j : Int)], row (bp) 33 (full refZ (rS src B false j) cp9), row (bu) 9 (full strZ (tnm s a) cu), row (bv) 9 (full strZ (tnm s b) cv)] X1_73 := hQ.back HL.out HX.out [1, 2, 3, 4, 5, 6, 8, 9, 10] (by decide) (by decide)
      clear hQ HL HX hO
      have hO := hN
      clear hN
      obtain ⟨c9_1_0, c9_1_1, lt9_1, y9_1, -⟩ := hO.k2 1 rfl
      obtain ⟨c9_5_0, c9_5_1, lt9_5, y9_5, -⟩ := hO.k2 5 rfl
      obtain ⟨c9_7_0, c9_7_1, lt9_7, y9_7, -⟩ := hO.k2 7 rfl
      have HO := Lib.hid hO
      clear hO
      have hsc9 : u84.cell? (sa.add j) = some (.bool true) := Base.cell_belowA HO.out.below hsc
      go_wp2_with (first | (with_reducible refine Own.stay (fn := Tryd.f4) ?_) | (at_builtin; refine Own.appStop ?_) | (first | (go_at_call 17; go_in)))
      try with_reducible refine Own.Stay.mk ?_
      have hO := HO.out
      clear HO hsc9 c9_1_0 c9_1_1 lt9_1 y9_1 c9_5_0 c9_5_1 lt9_5 y9_5 c9_7_0 c9_7_1 lt9_7 y9_7
      generalize hW : World.alloc _ _ = W86
      have hN : Own w0 W86 [row (u84.heap.size) 9 #[.string (tn (s + a))], row (nd82) 33 (full refZ ((rS src B true j) ++ [.int .u32 src, .int .u32 (j : Int)]) nc83), row (B80) 33 #[.int .u32 src, .int .u32 (j : Int)], row (nd4) 176 nd53, row (nd55) 183 (full symZ (symL (stB s B (j + 1))) nd56), row (nd76) 33 (full refZ ((gL src j) ++ [.int .u32 src, .int .u32 (j : Int)]) nc77), row (B74) 33 #[.int .u32 src, .int .u32 (j : Int)], row (B1) 38 nd54, row (B50) 33 #[.int .u32 src, .int .u32 (j : Int)], row (bp) 33 (full refZ (rS src B false j) cp9), row (bu) 9 (full strZ (tnm s a) cu), row (bv) 9 (full strZ (tnm s b) cv)] X1_73 := by
        rw [← hW]
        exact (hO).alloc' _ (u84.heap.size) (by simp)
      clear hW hO
      generalize u84.heap.size = B85 at hN ⊢
      have hO := hN
      clear hN
      refine Own.AppStop.mk ?_
      obtain ⟨i9, hi9, z1, z2, z3⟩ := info_parts infoStr
      have hL := hO.apart
      have hX := hO.apartX
      have HL := Lib.hid hL
      have HX := Lib.hid hX
      clear hL hX
      have hP9 := hO.pick [10, 0] (by decide)
      refine Own.wpList_append_full rfl (.tmp 102) (.tmp 104) 51 rfl 9 i9 (.string ⟨#[]⟩) 1 16 Tryd.underlying51 hi9 z1 z2 z3 rfl (by decide) hP9 rfl rfl (by first | rfl | assumption | (simp; done) | (simp; omega)) (by first | rfl | assumption | omega) rfl (oneAll rfl) (by first | decide | omega | (unfold maxLen; omega)) (by first | decide | omega | (unfold maxLen; omega)) ?_
      intro nd87 nc88 u89 hQ
      clear hP9
      have hN : Own w0 u89 [row (nd87) 9 (full strZ ((tnm s a) ++ [.string (tn (s + a))]) nc88), row (B85) 9 #[.string (tn (s + a))], row (nd82) 33 (full refZ ((rS src B true j) ++ [.int .u32 src, .int .u32 (j : Int)]) nc83), row (B80) 33 #[.int .u32 src, .int .u32 (j : Int)], row (nd4) 176 nd53, row (nd55) 183 (full symZ (symL (stB s B (j + 1))) nd56), row (nd76) 33 (full refZ ((gL src j) ++ [.int .u32 src, .int .u32 (j : Int)]) nc77), row (B74) 33 #[.int .u32 src, .int .u32 (j : Int)], row (B1) 38 nd54, row (B50) 33 #[.int .u32 src, .int .u32 (j : Int)], row (bp) 33 (full refZ (rS src B false j) cp9), row (bv) 9 (full strZ (tnm s b) cv)] X1_73 := hQ.back HL.out HX.out [1, 2, 3, 4, 5, 6, 7, 8, 9, 11] (by decide) (by decide)
      clear hQ HL HX hO
      have hO := hN
      clear hN
      obtain ⟨c9_1_0, lt9_1, y9_1, -⟩ := hO.k1 1 rfl
      obtain ⟨c9_3_0, c9_3_1, lt9_3, y9_3, -⟩ := hO.k2 3 rfl
      obtain ⟨c9_7_0, c9_7_1, lt9_7, y9_7, -⟩ := hO.k2 7 rfl
      obtain ⟨c9_9_0, c9_9_1, lt9_9, y9_9, -⟩ := hO.k2 9 rfl
      have HO := Lib.hid hO
      clear hO
      have hsc9 : u89.cell? (sa.add j) = some (.bool true) := Base.cell_belowA HO.out.below hsc
      go_wp2_with (first | (with_reducible refine Own.stay (fn := Tryd.f4) ?_) | (at_builtin; refine Own.appStop ?_) | (first | (go_at_call 17; go_in)))
      try with_reducible refine Own.Stay.mk ?_
      have hO := HO.out
      clear HO hsc9 c9_1_0 lt9_1 y9_1 c9_3_0 c9_3_1 lt9_3 y9_3 c9_7_0 c9_7_1 lt9_7 y9_7 c9_9_0 c9_9_1 lt9_9 y9_9
      have hN : Own w0 u89 [row (nd4) 176 nd53, row (nd55) 183 (full symZ (symL (stB s B (j + 1))) nd56), row (B1) 38 nd54, row (nd76) 33 (full refZ ((gL src j) ++ [.int .u32 src, .int .u32 (j : Int)]) nc77), row (nd82) 33 (full refZ ((rS src B true j) ++ [.int .u32 src, .int .u32 (j : Int)]) nc83), row (bp) 33 (full refZ (rS src B false j) cp9), row (nd87) 9 (full strZ ((tnm s a) ++ [.string (tn (s + a))]) nc88), row (bv) 9 (full strZ (tnm s b) cv)] X1_73 := hO.sub [4, 5, 8, 6, 2, 10, 0, 11] (by decide)
      clear hO
      have hO := hN
      clear hN
      have hng : ¬ B j = false := (by rw [hbj]; decide)
      rw [HX1_73.out] at hO
      have hN := hO.bring HBX1_73.out
      clear hO
      have hO := hN
      clear hN
      go_roundg gq
      case measure => omega
      case rel => exact ⟨j + 1, a + 1, b, nd55, nd56, nd76, nc77, nd82, nc83, bp, cp9, nd87, nc88, bv, cv, nd57, nd58, lb, cl, nd59, nd60, nd53, nd54, by omega, (by rw [cn_yes hbj, ha]), (by rw [cn_no hng, hb]), fun h => absurd h (Nat.succ_ne_zero _), rfl, rfl, rfl, rfl, rfl, (by first | rfl | simp), pr61, pr62, pr68, pr63, pr64, pr69, (by rw [show ((s : Int) + ((a + 1 : Nat) : Int)) = (s : Int) + (a : Int) + 1 by omega]; exact pr70), pr66, pr67, pr65, pr71, pr72, hO.conv (by rw [gL_succ, rS_yes hbj, rS_no hng, qS_no hng, tnm_succ])⟩
  have hlt9 : ¬ (j : Int) < (n : Int) := by omega
  have hab : a ≤ 4096 := by omega
  have hbb : b ≤ 4096 := by omega
  have ha9 : (a : Int) ≤ 4096 := by omega
  have hb9 : (b : Int) ≤ 4096 := by omega
  go_wp2_with (first | (with_reducible refine Own.stay (fn := Tryd.f4) ?_) | (at_builtin; refine Own.appStop ?_) | (first | (go_at_call 17; go_in)))
  try with_reducible refine Own.Stay.mk ?_
  go_loopg [18] a (fun gf s18 wx => ∃ i : Nat, s18 = .int .i64 (i : Int) ∧ i + gf = a ∧ i ≤ b ∧ Own w0 wx [row (nd4) 176 PC, row (sb) 183 (full symZ (symL (stB s B j)) c), row (B1) 38 MC, row (ba) 33 (full refZ (gL src j) ca), row (bt) 33 (full refZ (rS src B true j) ct), row (bp) 33 (full refZ (rS src B false j) cp9), row (bu) 9 (full strZ (tnm s a) cu), row (bv) 9 (full strZ (tnm s b) cv)] X1_9)
  case atStart => exact ⟨0, rfl, by omega, Nat.zero_le _, hO⟩
  obtain ⟨i, rfl, hia, hib, hO⟩ := hrel
  by_cases hc : i < a ∧ i < b
  · skip
    obtain ⟨gq, rfl⟩ : ∃ gq, gk = gq + 1 := ⟨gk - 1, by omega⟩
    have hia9 : (i : Int) < (a : Int) := by omega
    have hib9 : (i : Int) < (b : Int) := by omega
    have hi9 : (0 : Int) ≤ (i : Int) := by omega
    go_wp2_with (first | (with_reducible refine Own.stay (fn := Tryd.f4) ?_) | (at_builtin; refine Own.appStop ?_) | (first | (go_at_call 17; go_in)))
    try with_reducible refine Own.Stay.mk ?_
    have hL := hO.apart
    have hX := hO.apartX
    have HL := Lib.hid hL
    have HX := Lib.hid hX
    clear hL hX
    have hP9 := hO.pick [6, 7] (by decide)
    generalize hX9_90 : Own.Rest _ _ X1_9 = X9_90 at hP9
    replace hP9 : Own w0 wr [row (bu) 9 (full strZ (tnm s a) cu), row (bv) 9 (full strZ (tnm s b) cv)] X9_90 := hP9
    clear hO
    have hO := hP9
    clear hP9
    have st9 := rNA_st s a b bu cu bv cv i
    let R9 := rNAR s a b bu cu bv cv i
    refine wp_region_own (e := rNAE s a b bu cu bv cv i) (anc := rNAAnc) (G := (fun L9 α u9 => OwnF w0 u9 (act rNACnt 2 L9) (rNAR s a b bu cu bv cv i L9 α) X9_90)) (by kernel_rfl) (by kernel_rfl) (by kernel_rfl) (by kernel_rfl) (rNA_he s a b bu cu bv cv i) ?_ (RunsAll.all ?_) ?_
    · have hp : ∀ i, act rNACnt 2 (fun _ => false) i → i ∈ [999, 1999] := by
        intro i hi
        have h9 : i % 1000 = 999 := by
          by_cases h : i % 1000 = 999
          · exact h
          · exact absurd (act_lt hi h) (by simp)
        unfold act at hi
        rw [if_pos h9] at hi
        simp only [List.mem_cons, List.not_mem_nil, or_false]
        omega
      refine hO.drew.family (fun i hi => ?_) (fun i j hi hj hij => ?_)
      · have := hp i hi
        simp only [List.mem_cons, List.not_mem_nil, or_false] at this
        rcases this with rfl | rfl <;> rfl
      · have h1 := hp i hi
        have h2 := hp j hj
        simp only [List.mem_cons, List.not_mem_nil, or_false] at h1 h2
        omega
    · refine ⟨?_, ?_, ?_, ?_, ?_, ?_, ?_, ?_, ?_, trivial⟩
      · intro L9 α a9 u9 K9 hL hcl hA hG hS h0 hK
        replace hL : L9 0 = false := hL
        have q13 : a9.tmps[13]? = some (.slice (some ⟨bu, 0, none⟩) a (a + cu)) := (h0 13 (by kernel_rfl)).trans rfl
        have s13 := Rega.eval_of q13
        go_simp
        exact hK _ α _ (fun _ _ => rfl) rfl (step_same (st9) hL hcl rfl rfl hG)
      · intro L9 α a9 u9 K9 hL hcl hA hG hS h0 hK
        replace hL : L9 1 = false := hL
        have q18 : a9.tmps[18]? = some (.int .i64 (i : Int)) := (h0 18 (by kernel_rfl)).trans rfl
        have s18 := Rega.eval_of q18
        go_simp
        exact hK _ α _ (fun _ _ => rfl) rfl (step_same (st9) hL hcl rfl rfl hG)
      · intro L9 α a9 u9 K9 hL hcl hA hG hS h0 hK
        replace hL : L9 2 = false := hL
        have q126 : a9.tmps[126]? = some (.slice (some ⟨bu, 0, none⟩) a (a + cu)) := hS 0 126 (by decide) rfl (by show 126 < 178; decide)
        have s126 := Rega.eval_of q126
        have q127 : a9.tmps[127]? = some (.int .i64 (i : Int)) := hS 1 127 (by decide) rfl (by show 127 < 178; decide)
        have s127 := Rega.eval_of q127
        go_simp
        exact hK _ α _ (fun _ _ => rfl) rfl (step_same (st9) hL hcl rfl rfl hG)
      · intro L9 α a9 u9 K9 hL hcl hA hG hS h0 hK
        replace hL : L9 3 = false := hL
        have q128 : a9.tmps[128]? = some (.pointer (some ⟨bu, i, none⟩)) := hS 2 128 (by decide) rfl (by show 128 < 178; decide)
        have s128 := Rega.eval_of q128
        have e0 : R9 L9 α 999 = row (bu) 9 (full strZ (tnm s a) cu) := rfl
        have hr := hG.rowAt 999 (act_base 999 rfl) e0
        have c0 : u9.cell? ⟨bu, i, none⟩ = some (.string (tn (s + i))) := hr.cell ((full_at (tnm_at s a i hc.1)))
        clear hr e0
        go_simp
        exact hK _ α _ (fun _ _ => rfl) rfl (step_same (st9) hL hcl rfl rfl hG)
      · intro L9 α a9 u9 K9 hL hcl hA hG hS h0 hK
        replace hL : L9 4 = false := hL
        have q14 : a9.tmps[14]? = some (.slice (some ⟨bv, 0, none⟩) b (b + cv)) := (h0 14 (by kernel_rfl)).trans rfl
        have s14 := Rega.eval_of q14
        go_simp
        exact hK _ α _ (fun _ _ => rfl) rfl (step_same (st9) hL hcl rfl rfl hG)
      · intro L9 α a9 u9 K9 hL hcl hA hG hS h0 hK
        replace hL : L9 5 = false := hL
        have q18 : a9.tmps[18]? = some (.int .i64 (i : Int)) := (h0 18 (by kernel_rfl)).trans rfl
        have s18 := Rega.eval_of q18
        go_simp
        exact hK _ α _ (fun _ _ => rfl) rfl (step_same (st9) hL hcl rfl rfl hG)
      · intro L9 α a9 u9 K9 hL hcl hA hG hS h0 hK
        replace hL : L9 6 = false := hL
        have q130 : a9.tmps[130]? = some (.slice (some ⟨bv, 0, none⟩) b (b + cv)) := hS 4 130 (by decide) rfl (by show 130 < 178; decide)
        have s130 := Rega.eval_of q130
        have q131 : a9.tmps[131]? = some (.int .i64 (i : Int)) := hS 5 131 (by decide) rfl (by show 131 < 178; decide)
        have s131 := Rega.eval_of q131
        go_simp
        exact hK _ α _ (fun _ _ => rfl) rfl (step_same (st9) hL hcl rfl rfl hG)
      · intro L9 α a9 u9 K9 hL hcl hA hG hS h0 hK
        replace hL : L9 7 = false := hL
        have q132 : a9.tmps[132]? = some (.pointer (some ⟨bv, i, none⟩)) := hS 6 132 (by decide) rfl (by show 132 < 178; decide)
        have s132 := Rega.eval_of q132
        have e0 : R9 L9 α 1999 = row (bv) 9 (full strZ (tnm s b) cv) := rfl
        have hr := hG.rowAt 1999 (act_base 1999 rfl) e0
        have c0 : u9.cell? ⟨bv, i, none⟩ = some (.string (tn (s + i))) := hr.cell ((full_at (tnm_at s b i hc.2)))
        clear hr e0
        go_simp
        exact hK _ α _ (fun _ _ => rfl) rfl (step_same (st9) hL hcl rfl rfl hG)
      · intro L9 α a9 u9 K9 hL hcl hA hG hS h0 hK
        replace hL : L9 8 = false := hL
        have q129 : a9.tmps[129]? = some (.string (tn (s + i))) := hS 3 129 (by decide) rfl (by show 129 < 178; decide)
        have s129 := Rega.eval_of q129
        have q133 : a9.tmps[133]? = some (.string (tn (s + i))) := hS 7 133 (by decide) rfl (by show 133 < 178; decide)
        have s133 := Rega.eval_of q133
        go_simp
        exact hK _ α _ (fun _ _ => rfl) rfl (step_same (st9) hL hcl rfl rfl hG)
    clear st9
    intro α u hG
    have e0 : R9 (fun k => decide (k < 9)) α 999 = row (bu) 9 (full strZ (tnm s a) cu) := rfl
    have e1 : R9 (fun k => decide (k < 9)) α 1999 = row (bv) 9 (full strZ (tnm s b) cv) := rfl
    have hO : Own w0 u [row (bu) 9 (full strZ (tnm s a) cu), row (bv) 9 (full strZ (tnm s b) cv)] X9_90 := (hG.list [999, 1999] (by decide) (act_all (by decide))).conv (by
      show [R9 (fun k => decide (k < 9)) α 999, R9 (fun k => decide (k < 9)) α 1999] = _
      rw [e0, e1])
    clear hG e0 e1 R9
    generalize hfr : Rega.frameAt _ _ _ _ _ = fr
    have hdf : fr = ⟨#[.int .u32 src, .slice xs n cp, .int .i64 (s : Int), undef, undef, undef, u6, .pointer (some ⟨B1, 0, none⟩), .pointer (some ⟨nd4, 0, none⟩), .int .i64 (n : Int), .slice (some ⟨ba, 0, none⟩) j (j + ca), .slice (some ⟨bt, 0, none⟩) a (a + ct), .slice (some ⟨bp, 0, none⟩) b (b + cp9), .slice (some ⟨bu, 0, none⟩) a (a + cu), .slice (some ⟨bv, 0, none⟩) b (b + cv), .int .i64 (j : Int), u16, u17, .int .i64 (i : Int), .int .u32 src, .slice xs n cp, .int .i64 (s : Int), .bool true, .bool false, .slice xs n cp, .int .i64 (n : Int), .bool (decide (4096 < (n : Int))), .int .i64 (s : Int), .bool (decide ((s : Int) < 0)), .bool (decide ((s : Int) < 0)), .int .i64 (s : Int), .bool (decide (65536 < (s : Int))), .bool (decide ((s : Int) < 0) || decide (65536 < (s : Int))), .agg #[.pointer none, .pointer none, .slice none 0 0, .map none, .slice none 0 0, .slice none 0 0, .int .i32 0, .int .i32 0, .int .u32 0, .int .u32 0, .bool false, .bool false, .bool false, .bool false, .int .u8 0, .int .u8 6], .pointer (some ⟨B1, 0, none⟩), .int .u32 src, .pointer (some ⟨B1, 0, none⟩), .pointer (some ⟨B1, 0, none⟩), .pointer (some ⟨nd4, 0, none⟩), .pointer (some ⟨nd4, 0, none⟩), .int .i64 (s : Int), .int .i64 (s : Int), .tuple #[], .slice xs n cp, .int .i64 (n : Int), .int .i64 (n : Int), .slice (some ⟨B7, 0, none⟩) 0 n, .int .i64 (n : Int), .slice (some ⟨B7_1, 0, none⟩) 0 n, .int .i64 (n : Int), .slice (some ⟨B7_2, 0, none⟩) 0 n, .int .i64 (n : Int), .slice (some ⟨B7_3, 0, none⟩) 0 n, .int .i64 (n : Int), .slice (some ⟨B7_4, 0, none⟩) 0 n, .int .i64 (j : Int), .int .i64 (n : Int), .bool false, u58, u59, u60, u61, u62, u63, u64, u65, u66, u67, u68, u69, u70, u71, u72, u73, u74, u75, u76, u77, u78, u79, u80, u81, u82, u83, u84, u85, u86, u87, u88, u89, u90, u91, u92, u93, u94, u95, u96, u97, u98, u99, u100, u101, u102, u103, u104, u105, u106, u107, u108, u109, u110, u111, u112, u113, .int .i64 (i : Int), .slice (some ⟨bu, 0, none⟩) a (a + cu), .int .i64 (a : Int), .bool true, .bool true, .int .i64 (i : Int), .slice (some ⟨bv, 0, none⟩) b (b + cv), .int .i64 (b : Int), .bool true, .bool true, u124, u125, .slice (some ⟨bu, 0, none⟩) a (a + cu), .int .i64 (i : Int), .pointer (some ⟨bu, i, none⟩), .string (tn (s + i)), .slice (some ⟨bv, 0, none⟩) b (b + cv), .int .i64 (i : Int), .pointer (some ⟨bv, i, none⟩), .string (tn (s + i)), .bool false, undef, undef, undef, undef, undef, undef, undef, undef, undef, undef, undef, undef, undef, undef, undef, undef, undef, undef, undef, undef, undef, undef, undef, undef, undef, undef, undef, undef, undef, undef, undef, undef, undef, undef, undef, undef, undef, undef, undef, undef, undef, undef, undef], []⟩ := by rw [← hfr]; kernel_rfl
    clear hfr
    subst hdf
    clear α
    subst hX9_90
    have hN : Own w0 u [row (bu) 9 (full strZ (tnm s a) cu), row (bv) 9 (full strZ (tnm s b) cv), row (nd4) 176 PC, row (sb) 183 (full symZ (symL (stB s B j)) c), row (B1) 38 MC, row (ba) 33 (full refZ (gL src j) ca), row (bt) 33 (full refZ (rS src B true j) ct), row (bp) 33 (full refZ (rS src B false j) cp9)] X1_9 := hO.back HL.out HX.out [0, 1, 2, 3, 4, 5] (by decide) (by decide)
    clear hO HL HX
    have hO := hN
    clear hN
    go_wp2_with (first | (with_reducible refine Own.stay (fn := Tryd.f4) ?_) | (at_builtin; refine Own.appStop ?_) | (first | (go_at_call 17; go_in)))
    try with_reducible refine Own.Stay.mk ?_
    have hN : Own w0 u [row (nd4) 176 PC, row (sb) 183 (full symZ (symL (stB s B j)) c), row (B1) 38 MC, row (ba) 33 (full refZ (gL src j) ca), row (bt) 33 (full refZ (rS src B true j) ct), row (bp) 33 (full refZ (rS src B false j) cp9), row (bu) 9 (full strZ (tnm s a) cu), row (bv) 9 (full strZ (tnm s b) cv)] X1_9 := hO.sub [2, 3, 4, 5, 6, 7, 0, 1] (by decide)
    clear hO
    have hO := hN
    clear hN
    go_roundg gq
    case measure => omega
    case rel => exact ⟨i + 1, by first | rfl | simp, by omega, by omega, hO⟩
  by_cases hia9 : i < a
  · skip
    have hia8 : (i : Int) < (a : Int) := by omega
    have hib8 : ¬ (i : Int) < (b : Int) := by omega
    go_wp2_with (first | (with_reducible refine Own.stay (fn := Tryd.f4) ?_) | (at_builtin; refine Own.appStop ?_) | (first | (go_at_call 17; go_in)))
    try with_reducible refine Own.Stay.mk ?_
    have hL := hO.apart
    have hX := hO.apartX
    have HL := Lib.hid hL
    have HX := Lib.hid hX
    clear hL hX
    have hP9 := hO.pick [6] (by decide)
    have h9_ha5 : a ≤ 10000 := (by omega)
    have T9 := allDist bu s a cu _ _ _ hP9 h9_ha5
    refine Calls.mono T9 ?_
    clear hP9 T9 h9_ha5
    rintro e uw91 ⟨rfl, hQ⟩
    have hN : Own w0 uw91 [row (bu) 9 (full strZ (tnm s a) cu), row (nd4) 176 PC, row (sb) 183 (full symZ (symL (stB s B j)) c), row (B1) 38 MC, row (ba) 33 (full refZ (gL src j) ca), row (bt) 33 (full refZ (rS src B true j) ct), row (bp) 33 (full refZ (rS src B false j) cp9), row (bv) 9 (full strZ (tnm s b) cv)] X1_9 := hQ.back HL.out HX.out [0, 1, 2, 3, 4, 5, 7] (by decide) (by decide)
    clear hQ HL HX hO
    have hO := hN
    clear hN
    try simp only []
    go_wp2_with (first | (with_reducible refine Own.stay (fn := Tryd.f4) ?_) | (at_builtin; refine Own.appStop ?_) | (first | (go_at_call 17; go_in)))
    try with_reducible refine Own.Stay.mk ?_
    have hL := hO.apart
    have hX := hO.apartX
    have HL := Lib.hid hL
    have HX := Lib.hid hX
    clear hL hX
    have hP9 := hO.pick [7] (by decide)
    have h9_ha5 : b ≤ 10000 := (by omega)
    have T9 := allDist bv s b cv _ _ _ hP9 h9_ha5
    refine Calls.mono T9 ?_
    clear hP9 T9 h9_ha5
    rintro e uw92 ⟨rfl, hQ⟩
    have hN : Own w0 uw92 [row (bv) 9 (full strZ (tnm s b) cv), row (bu) 9 (full strZ (tnm s a) cu), row (nd4) 176 PC, row (sb) 183 (full symZ (symL (stB s B j)) c), row (B1) 38 MC, row (ba) 33 (full refZ (gL src j) ca), row (bt) 33 (full refZ (rS src B true j) ct), row (bp) 33 (full refZ (rS src B false j) cp9)] X1_9 := hQ.back HL.out HX.out [0, 1, 2, 3, 4, 5, 6] (by decide) (by decide)
    clear hQ HL HX hO
    have hO := hN
    clear hN
    try simp only []
    go_wp2_with (first | (with_reducible refine Own.stay (fn := Tryd.f4) ?_) | (at_builtin; refine Own.appStop ?_) | (first | (go_at_call 17; go_in)))
    try with_reducible refine Own.Stay.mk ?_
    have hL := hO.apart
    have hX := hO.apartX
    have HL := Lib.hid hL
    have HX := Lib.hid hX
    clear hL hX
    have hP9 := hO.pick [2] (by decide)
    have T9 := tmpCnt nd4 PC ((s : Int) + (a : Int)) _ _ _ hP9 hk287
    refine Calls.mono T9 ?_
    clear hP9 T9
    rintro e uw93 ⟨rfl, hQ⟩
    have hN : Own w0 uw93 [row (nd4) 176 PC, row (bv) 9 (full strZ (tnm s b) cv), row (bu) 9 (full strZ (tnm s a) cu), row (sb) 183 (full symZ (symL (stB s B j)) c), row (B1) 38 MC, row (ba) 33 (full refZ (gL src j) ca), row (bt) 33 (full refZ (rS src B true j) ct), row (bp) 33 (full refZ (rS src B false j) cp9)] X1_9 := hQ.back HL.out HX.out [0, 1, 3, 4, 5, 6, 7] (by decide) (by decide)
    clear hQ HL HX hO
    have hO := hN
    clear hN
    try simp only []
    go_wp2_with (first | (with_reducible refine Own.stay (fn := Tryd.f4) ?_) | (at_builtin; refine Own.appStop ?_) | (first | (go_at_call 17; go_in)))
    try with_reducible refine Own.Stay.mk ?_
    have hL := hO.apart
    have hX := hO.apartX
    have HL := Lib.hid hL
    have HX := Lib.hid hX
    clear hL hX
    have hP9 := hO.pick [0] (by decide)
    have T9 := topCnt nd4 PC ((s : Int) + (b : Int)) _ _ _ hP9 hk288
    refine Calls.mono T9 ?_
    clear hP9 T9
    rintro e uw94 ⟨rfl, hQ⟩
    have hN : Own w0 uw94 [row (nd4) 176 PC, row (bv) 9 (full strZ (tnm s b) cv), row (bu) 9 (full strZ (tnm s a) cu), row (sb) 183 (full symZ (symL (stB s B j)) c), row (B1) 38 MC, row (ba) 33 (full refZ (gL src j) ca), row (bt) 33 (full refZ (rS src B true j) ct), row (bp) 33 (full refZ (rS src B false j) cp9)] X1_9 := hQ.back HL.out HX.out [1, 2, 3, 4, 5, 6, 7] (by decide) (by decide)
    clear hQ HL HX hO
    have hO := hN
    clear hN
    try simp only []
    obtain ⟨ix9, hix9, hax9, hjx9⟩ := hO.ix
    have ix9_0 : ix9 nd4 = 0 := hjx9 0 _ _ rfl
    have ix9_1 : ix9 bv = 1 := hjx9 1 _ _ rfl
    have ix9_2 : ix9 bu = 2 := hjx9 2 _ _ rfl
    have ix9_3 : ix9 sb = 3 := hjx9 3 _ _ rfl
    have ix9_4 : ix9 B1 = 4 := hjx9 4 _ _ rfl
    have ix9_5 : ix9 ba = 5 := hjx9 5 _ _ rfl
    have ix9_6 : ix9 bt = 6 := hjx9 6 _ _ rfl
    have ix9_7 : ix9 bp = 7 := hjx9 7 _ _ rfl
    clear hjx9
    have c9_0_32 : uw94.cell? ⟨nd4, 32, none⟩ = some (.bool false) := hO.cell 0 rfl (32) (hk32)
    have c9_0_66 : uw94.cell? ⟨nd4, 66, none⟩ = some (.int .u32 src) := hO.cell 0 rfl (66) (hk66)
    have c9_0_104 : uw94.cell? ⟨nd4, 104, none⟩ = some (.pointer (some ⟨B1, 0, none⟩)) := hO.cell 0 rfl (104) (hk104)
    have c9_0_106 : uw94.cell? ⟨nd4, 106, none⟩ = some (.slice (some ⟨sb, 0, none⟩) j (j + c)) := hO.cell 0 rfl (106) (hk106)
    have c9_0_187 : uw94.cell? ⟨nd4, 187, none⟩ = some (.pointer (some ⟨B1, 0, none⟩)) := hO.cell 0 rfl (187) (hk187)
    have c9_0_198 : uw94.cell? ⟨nd4, 198, none⟩ = some (.slice none 0 0) := hO.cell 0 rfl (198) (hk198)
    have c9_0_199 : uw94.cell? ⟨nd4, 199, none⟩ = some (oS a qb cq) := hO.cell 0 rfl (199) (hk199)
    have c9_0_200 : uw94.cell? ⟨nd4, 200, none⟩ = some (oS b lb cl) := hO.cell 0 rfl (200) (hk200)
    have c9_0_287 : uw94.cell? ⟨nd4, 287, none⟩ = some (.int .i64 ((s : Int) + (a : Int))) := hO.cell 0 rfl (287) (hk287)
    have c9_0_288 : uw94.cell? ⟨nd4, 288, none⟩ = some (.int .i64 ((s : Int) + (b : Int))) := hO.cell 0 rfl (288) (hk288)
    have lt9_0 : nd4 < uw94.heap.size := hO.lt 0 rfl
    have y9_0 : ∀ o, uw94.frozen? ⟨nd4, o, none⟩ = false := hO.free 0 rfl
    have pl9_1 : Base.plainAt uw94 (bv) = true := hO.plain 1 rfl
    have pl9_2 : Base.plainAt uw94 (bu) = true := hO.plain 2 rfl
    have c9_4_5 : uw94.cell? ⟨B1, 5, none⟩ = some (oS j gb cg) := hO.cell 4 rfl (5) (hm5)
    have c9_4_15 : uw94.cell? ⟨B1, 15, none⟩ = some (.int .u8 6) := hO.cell 4 rfl (15) (hm15)
    have lt9_4 : B1 < uw94.heap.size := hO.lt 4 rfl
    have y9_4 : ∀ o, uw94.frozen? ⟨B1, o, none⟩ = false := hO.free 4 rfl
    have pl9_5 : Base.plainAt uw94 (ba) = true := hO.plain 5 rfl
    have pl9_6 : Base.plainAt uw94 (bt) = true := hO.plain 6 rfl
    have pl9_7 : Base.plainAt uw94 (bp) = true := hO.plain 7 rfl
    have HO := Lib.hid hO
    clear hO
    go_wp2_with (first | (with_reducible refine Own.stay (fn := Tryd.f4) ?_) | (at_builtin; refine Own.appStop ?_) | (first | (go_at_call 17; go_in)))
    try with_reducible refine Own.Stay.mk ?_
    have hO := HO.out
    clear HO hix9 hax9 ix9_0 ix9_1 ix9_2 ix9_3 ix9_4 ix9_5 ix9_6 ix9_7 ix9 c9_0_32 c9_0_66 c9_0_104 c9_0_106 c9_0_187 c9_0_198 c9_0_199 c9_0_200 c9_0_287 c9_0_288 lt9_0 y9_0 pl9_1 pl9_2 c9_4_5 c9_4_15 lt9_4 y9_4 pl9_5 pl9_6 pl9_7
    have hN : Own w0 uw94 [row (ba) 33 (full refZ (gL src j) ca), row (nd4) 176 PC, row (bv) 9 (full strZ (tnm s b) cv), row (bu) 9 (full strZ (tnm s a) cu), row (sb) 183 (full symZ (symL (stB s B j)) c), row (B1) 38 MC, row (bt) 33 (full refZ (rS src B true j) ct), row (bp) 33 (full refZ (rS src B false j) cp9)] X1_9 := hO.sub [5, 0, 1, 2, 3, 4, 6, 7] (by decide)
    clear hO
    have hO := hN
    clear hN
    rw [HX1_9.out] at hO
    have hN := hO.bring HBX1_9.out
    clear hO
    have hO := hN
    clear hN
    have hP9 : Own w0 uw94 (([row (ba) 33 (full refZ (gL src j) ca)] ++ (optl j (row (gb) 33 (full refZ (gL src j) cg)))) ++ ([row (nd4) 176 PC, row (bv) 9 (full strZ (tnm s b) cv), row (bu) 9 (full strZ (tnm s a) cu), row (sb) 183 (full symZ (symL (stB s B j)) c), row (B1) 38 MC, row (bt) 33 (full refZ (rS src B true j) ct), row (bp) 33 (full refZ (rS src B false j) cp9)] ++ (optl a (row (qb) 185 (full trfZ (qS src B true j) cq)) ++ optl b (row (lb) 185 (full trfZ (qS src B false j) cl))))) X := hO.perm (permG [row (ba) 33 (full refZ (gL src j) ca)] [row (nd4) 176 PC, row (bv) 9 (full strZ (tnm s b) cv), row (bu) 9 (full strZ (tnm s a) cu), row (sb) 183 (full symZ (symL (stB s B j)) c), row (B1) 38 MC, row (bt) 33 (full refZ (rS src B true j) ct), row (bp) 33 (full refZ (rS src B false j) cp9)] (optl a (row (qb) 185 (full trfZ (qS src B true j) cq))) (optl b (row (lb) 185 (full trfZ (qS src B false j) cl))) (optl j (row (gb) 33 (full refZ (gL src j) cg))))
    clear hO
    have HT := Lib.hid hP9.tail
    replace hP9 := hP9.aside
    have h9_hm5 : j ≤ 10000 := (by omega)
    have T9 := sameRefs6 gb ba cg ca j src _ _ _ hP9 h9_hm5
    refine Calls.mono T9 ?_
    clear hP9 T9 h9_hm5
    rintro e uw95 ⟨rfl, hQ⟩
    replace hQ := hQ.bring HT.out
    clear HT
    have hO : Own w0 uw95 ([row (ba) 33 (full refZ (gL src j) ca), row (nd4) 176 PC, row (bv) 9 (full strZ (tnm s b) cv), row (bu) 9 (full strZ (tnm s a) cu), row (sb) 183 (full symZ (symL (stB s B j)) c), row (B1) 38 MC, row (bt) 33 (full refZ (rS src B true j) ct), row (bp) 33 (full refZ (rS src B false j) cp9)] ++ (optl a (row (qb) 185 (full trfZ (qS src B true j) cq)) ++ (optl b (row (lb) 185 (full trfZ (qS src B false j) cl)) ++ optl j (row (gb) 33 (full refZ (gL src j) cg))))) X := hQ.perm (permG [row (ba) 33 (full refZ (gL src j) ca)] [row (nd4) 176 PC, row (bv) 9 (full strZ (tnm s b) cv), row (bu) 9 (full strZ (tnm s a) cu), row (sb) 183 (full symZ (symL (stB s B j)) c), row (B1) 38 MC, row (bt) 33 (full refZ (rS src B true j) ct), row (bp) 33 (full refZ (rS src B false j) cp9)] (optl a (row (qb) 185 (full trfZ (qS src B true j) cq))) (optl b (row (lb) 185 (full trfZ (qS src B false j) cl))) (optl j (row (gb) 33 (full refZ (gL src j) cg)))).symm
    clear hQ
    try simp only []
    have HBX1_96 := Lib.hid hO.tail
    have hN := hO.aside
    obtain ⟨X1_96, hX1_96⟩ : ∃ Y, Y = FR (optl a (row (qb) 185 (full trfZ (qS src B true j) cq)) ++ (optl b (row (lb) 185 (full trfZ (qS src B false j) cl)) ++ optl j (row (gb) 33 (full refZ (gL src j) cg)))) X := ⟨_, rfl⟩
    rw [← hX1_96] at hN
    have HX1_96 := Lib.hid hX1_96
    clear hO hX1_96
    have hO := hN
    clear hN
    go_wp2_with (first | (with_reducible refine Own.stay (fn := Tryd.f4) ?_) | (at_builtin; refine Own.appStop ?_) | (first | (go_at_call 17; go_in)))
    try with_reducible refine Own.Stay.mk ?_
    have hN : Own w0 uw95 [row (nd4) 176 PC, row (ba) 33 (full refZ (gL src j) ca), row (bv) 9 (full strZ (tnm s b) cv), row (bu) 9 (full strZ (tnm s a) cu), row (sb) 183 (full symZ (symL (stB s B j)) c), row (B1) 38 MC, row (bt) 33 (full refZ (rS src B true j) ct), row (bp) 33 (full refZ (rS src B false j) cp9)] X1_96 := hO.sub [1, 0, 2, 3, 4, 5, 6, 7] (by decide)
    clear hO
    have hO := hN
    clear hN
    rw [HX1_96.out] at hO
    have hN := hO.bring HBX1_96.out
    clear hO
    have hO := hN
    clear hN
    have hP9 : Own w0 uw95 (([row (nd4) 176 PC] ++ (optl a (row (qb) 185 (full trfZ (qS src B true j) cq)))) ++ ([row (ba) 33 (full refZ (gL src j) ca), row (bv) 9 (full strZ (tnm s b) cv), row (bu) 9 (full strZ (tnm s a) cu), row (sb) 183 (full symZ (symL (stB s B j)) c), row (B1) 38 MC, row (bt) 33 (full refZ (rS src B true j) ct), row (bp) 33 (full refZ (rS src B false j) cp9)] ++ (optl b (row (lb) 185 (full trfZ (qS src B false j) cl)) ++ optl j (row (gb) 33 (full refZ (gL src j) cg))))) X := hO.perm (permQ [row (nd4) 176 PC] [row (ba) 33 (full refZ (gL src j) ca), row (bv) 9 (full strZ (tnm s b) cv), row (bu) 9 (full strZ (tnm s a) cu), row (sb) 183 (full symZ (symL (stB s B j)) c), row (B1) 38 MC, row (bt) 33 (full refZ (rS src B true j) ct), row (bp) 33 (full refZ (rS src B false j) cp9)] (optl a (row (qb) 185 (full trfZ (qS src B true j) cq))) (optl b (row (lb) 185 (full trfZ (qS src B false j) cl))) (optl j (row (gb) 33 (full refZ (gL src j) cg))))
    clear hO
    have HT := Lib.hid hP9.tail
    replace hP9 := hP9.aside
    have h9_hj5 : j ≤ 10000 := (by omega)
    have h9_ha : cn B true j = a := (by first | assumption | omega | (simp; done) | (simp; omega))
    have T9 := rdl6R nd4 PC src B j a qb cq _ _ _ hP9 hk199 h9_hj5 h9_ha
    refine Calls.mono T9 ?_
    clear hP9 T9 h9_hj5 h9_ha
    rintro e uw97 ⟨nd98, nd99, rfl, hQ⟩
    replace hQ := hQ.bring HT.out
    clear HT
    have hO : Own w0 uw97 ([row (nd4) 176 PC, row (nd98) 33 (full refZ (rS src B true j) nd99), row (ba) 33 (full refZ (gL src j) ca), row (bv) 9 (full strZ (tnm s b) cv), row (bu) 9 (full strZ (tnm s a) cu), row (sb) 183 (full symZ (symL (stB s B j)) c), row (B1) 38 MC, row (bt) 33 (full refZ (rS src B true j) ct), row (bp) 33 (full refZ (rS src B false j) cp9)] ++ (optl a (row (qb) 185 (full trfZ (qS src B true j) cq)) ++ (optl b (row (lb) 185 (full trfZ (qS src B false j) cl)) ++ optl j (row (gb) 33 (full refZ (gL src j) cg))))) X := hQ.perm (permQ [row (nd4) 176 PC, row (nd98) 33 (full refZ (rS src B true j) nd99)] [row (ba) 33 (full refZ (gL src j) ca), row (bv) 9 (full strZ (tnm s b) cv), row (bu) 9 (full strZ (tnm s a) cu), row (sb) 183 (full symZ (symL (stB s B j)) c), row (B1) 38 MC, row (bt) 33 (full refZ (rS src B true j) ct), row (bp) 33 (full refZ (rS src B false j) cp9)] (optl a (row (qb) 185 (full trfZ (qS src B true j) cq))) (optl b (row (lb) 185 (full trfZ (qS src B false j) cl))) (optl j (row (gb) 33 (full refZ (gL src j) cg)))).symm
    clear hQ
    try simp only []
    have HBX1_100 := Lib.hid hO.tail
    have hN := hO.aside
    obtain ⟨X1_100, hX1_100⟩ : ∃ Y, Y = FR (optl a (row (qb) 185 (full trfZ (qS src B true j) cq)) ++ (optl b (row (lb) 185 (full trfZ (qS src B false j) cl)) ++ optl j (row (gb) 33 (full refZ (gL src j) cg)))) X := ⟨_, rfl⟩
    rw [← hX1_100] at hN
    have HX1_100 := Lib.hid hX1_100
    clear hO hX1_100
    have hO := hN
    clear hN
    go_wp2_with (first | (with_reducible refine Own.stay (fn := Tryd.f4) ?_) | (at_builtin; refine Own.appStop ?_) | (first | (go_at_call 17; go_in)))
    try with_reducible refine Own.Stay.mk ?_
    have hL := hO.apart
    have hX := hO.apartX
    have HL := Lib.hid hL
    have HX := Lib.hid hX
    clear hL hX
    have hP9 := hO.pick [1, 7] (by decide)
    have h9_hm5 : j ≤ 10000 := (by omega)
    have h9_ha : cn B true j = a := (by first | assumption | omega | (simp; done) | (simp; omega))
    have T9 := sameRefsBt nd98 bt nd99 ct a src B j _ _ _ hP9 h9_hm5 h9_ha
    refine Calls.mono T9 ?_
    clear hP9 T9 h9_hm5 h9_ha
    rintro e uw101 ⟨rfl, hQ⟩
    have hN : Own w0 uw101 [row (nd98) 33 (full refZ (rS src B true j) nd99), row (bt) 33 (full refZ (rS src B true j) ct), row (nd4) 176 PC, row (ba) 33 (full refZ (gL src j) ca), row (bv) 9 (full strZ (tnm s b) cv), row (bu) 9 (full strZ (tnm s a) cu), row (sb) 183 (full symZ (symL (stB s B j)) c), row (B1) 38 MC, row (bp) 33 (full refZ (rS src B false j) cp9)] X1_100 := hQ.back HL.out HX.out [0, 2, 3, 4, 5, 6, 8] (by decide) (by decide)
    clear hQ HL HX hO
    have hO := hN
    clear hN
    try simp only []
    go_wp2_with (first | (with_reducible refine Own.stay (fn := Tryd.f4) ?_) | (at_builtin; refine Own.appStop ?_) | (first | (go_at_call 17; go_in)))
    try with_reducible refine Own.Stay.mk ?_
    have hN : Own w0 uw101 [row (nd4) 176 PC, row (nd98) 33 (full refZ (rS src B true j) nd99), row (bt) 33 (full refZ (rS src B true j) ct), row (ba) 33 (full refZ (gL src j) ca), row (bv) 9 (full strZ (tnm s b) cv), row (bu) 9 (full strZ (tnm s a) cu), row (sb) 183 (full symZ (symL (stB s B j)) c), row (B1) 38 MC, row (bp) 33 (full refZ (rS src B false j) cp9)] X1_100 := hO.sub [2, 0, 1, 3, 4, 5, 6, 7, 8] (by decide)
    clear hO
    have hO := hN
    clear hN
    rw [HX1_100.out] at hO
    have hN := hO.bring HBX1_100.out
    clear hO
    have hO := hN
    clear hN
    have hP9 : Own w0 uw101 (([row (nd4) 176 PC] ++ (optl b (row (lb) 185 (full trfZ (qS src B false j) cl)))) ++ ([row (nd98) 33 (full refZ (rS src B true j) nd99), row (bt) 33 (full refZ (rS src B true j) ct), row (ba) 33 (full refZ (gL src j) ca), row (bv) 9 (full strZ (tnm s b) cv), row (bu) 9 (full strZ (tnm s a) cu), row (sb) 183 (full symZ (symL (stB s B j)) c), row (B1) 38 MC, row (bp) 33 (full refZ (rS src B false j) cp9)] ++ (optl a (row (qb) 185 (full trfZ (qS src B true j) cq)) ++ optl j (row (gb) 33 (full refZ (gL src j) cg))))) X := hO.perm (permT [row (nd4) 176 PC] [row (nd98) 33 (full refZ (rS src B true j) nd99), row (bt) 33 (full refZ (rS src B true j) ct), row (ba) 33 (full refZ (gL src j) ca), row (bv) 9 (full strZ (tnm s b) cv), row (bu) 9 (full strZ (tnm s a) cu), row (sb) 183 (full symZ (symL (stB s B j)) c), row (B1) 38 MC, row (bp) 33 (full refZ (rS src B false j) cp9)] (optl a (row (qb) 185 (full trfZ (qS src B true j) cq))) (optl b (row (lb) 185 (full trfZ (qS src B false j) cl))) (optl j (row (gb) 33 (full refZ (gL src j) cg))))
    clear hO
    have HT := Lib.hid hP9.tail
    replace hP9 := hP9.aside
    have h9_hj5 : j ≤ 10000 := (by omega)
    have T9 := rdl6L nd4 PC src B j _ _ _ _ _ _ hP9 (by first | assumption | omega | (simp; done) | (simp; omega)) h9_hj5 (by first | assumption | omega | (simp; done) | (simp; omega))
    refine Calls.mono T9 ?_
    clear hP9 T9 h9_hj5
    rintro e uw102 ⟨nd103, nd104, rfl, hQ⟩
    replace hQ := hQ.bring HT.out
    clear HT
    have hO : Own w0 uw102 ([row (nd4) 176 PC, row (nd103) 33 (full refZ (rS src B false j) nd104), row (nd98) 33 (full refZ (rS src B true j) nd99), row (bt) 33 (full refZ (rS src B true j) ct), row (ba) 33 (full refZ (gL src j) ca), row (bv) 9 (full strZ (tnm s b) cv), row (bu) 9 (full strZ (tnm s a) cu), row (sb) 183 (full symZ (symL (stB s B j)) c), row (B1) 38 MC, row (bp) 33 (full refZ (rS src B false j) cp9)] ++ (optl a (row (qb) 185 (full trfZ (qS src B true j) cq)) ++ (optl b (row (lb) 185 (full trfZ (qS src B false j) cl)) ++ optl j (row (gb) 33 (full refZ (gL src j) cg))))) X := hQ.perm (permT [row (nd4) 176 PC, row (nd103) 33 (full refZ (rS src B false j) nd104)] [row (nd98) 33 (full refZ (rS src B true j) nd99), row (bt) 33 (full refZ (rS src B true j) ct), row (ba) 33 (full refZ (gL src j) ca), row (bv) 9 (full strZ (tnm s b) cv), row (bu) 9 (full strZ (tnm s a) cu), row (sb) 183 (full symZ (symL (stB s B j)) c), row (B1) 38 MC, row (bp) 33 (full refZ (rS src B false j) cp9)] (optl a (row (qb) 185 (full trfZ (qS src B true j) cq))) (optl b (row (lb) 185 (full trfZ (qS src B false j) cl))) (optl j (row (gb) 33 (full refZ (gL src j) cg)))).symm
    clear hQ
    try simp only []
    have HBX1_105 := Lib.hid hO.tail
    have hN := hO.aside
    obtain ⟨X1_105, hX1_105⟩ : ∃ Y, Y = FR (optl a (row (qb) 185 (full trfZ (qS src B true j) cq)) ++ (optl b (row (lb) 185 (full trfZ (qS src B false j) cl)) ++ optl j (row (gb) 33 (full refZ (gL src j) cg)))) X := ⟨_, rfl⟩
    rw [← hX1_105] at hN
    have HX1_105 := Lib.hid hX1_105
    clear hO hX1_105
    have hO := hN
    clear hN
    go_wp2_with (first | (with_reducible refine Own.stay (fn := Tryd.f4) ?_) | (at_builtin; refine Own.appStop ?_) | (first | (go_at_call 17; go_in)))
    try with_reducible refine Own.Stay.mk ?_
    have hL := hO.apart
    have hX := hO.apartX
    have HL := Lib.hid hL
    have HX := Lib.hid hX
    clear hL hX
    have hP9 := hO.pick [1, 9] (by decide)
    have h9_hm5 : j ≤ 10000 := (by omega)
    have h9_ha : cn B false j = b := (by first | assumption | omega | (simp; done) | (simp; omega))
    have T9 := sameRefsBf nd103 bp nd104 cp9 b src B j _ _ _ hP9 h9_hm5 h9_ha
    refine Calls.mono T9 ?_
    clear hP9 T9 h9_hm5 h9_ha
    rintro e uw106 ⟨rfl, hQ⟩
    have hN : Own w0 uw106 [row (nd103) 33 (full refZ (rS src B false j) nd104), row (bp) 33 (full refZ (rS src B false j) cp9), row (nd4) 176 PC, row (nd98) 33 (full refZ (rS src B true j) nd99), row (bt) 33 (full refZ (rS src B true j) ct), row (ba) 33 (full refZ (gL src j) ca), row (bv) 9 (full strZ (tnm s b) cv), row (bu) 9 (full strZ (tnm s a) cu), row (sb) 183 (full symZ (symL (stB s B j)) c), row (B1) 38 MC] X1_105 := hQ.back HL.out HX.out [0, 2, 3, 4, 5, 6, 7, 8] (by decide) (by decide)
    clear hQ HL HX hO
    have hO := hN
    clear hN
    try simp only []
    go_wp2_with (first | (with_reducible refine Own.stay (fn := Tryd.f4) ?_) | (at_builtin; refine Own.appStop ?_) | (first | (go_at_call 17; go_in)))
    try with_reducible refine Own.Stay.mk ?_
    have hL := hO.apart
    have hX := hO.apartX
    have HL := Lib.hid hL
    have HX := Lib.hid hX
    clear hL hX
    have hP9 := hO.pick [2] (by decide)
    have h9_hk198 : PC[198]? = some (.slice none 0 0) := (by first | assumption | omega | (simp; done) | (simp; omega))
    have T9 := tmpLets0 nd4 PC _ _ _ hP9 h9_hk198
    refine Calls.mono T9 ?_
    clear hP9 T9 h9_hk198
    rintro e uw107 ⟨rfl, hQ⟩
    have hN : Own w0 uw107 [row (nd4) 176 PC, row (nd103) 33 (full refZ (rS src B false j) nd104), row (bp) 33 (full refZ (rS src B false j) cp9), row (nd98) 33 (full refZ (rS src B true j) nd99), row (bt) 33 (full refZ (rS src B true j) ct), row (ba) 33 (full refZ (gL src j) ca), row (bv) 9 (full strZ (tnm s b) cv), row (bu) 9 (full strZ (tnm s a) cu), row (sb) 183 (full symZ (symL (stB s B j)) c), row (B1) 38 MC] X1_105 := hQ.back HL.out HX.out [0, 1, 3, 4, 5, 6, 7, 8, 9] (by decide) (by decide)
    clear hQ HL HX hO
    have hO := hN
    clear hN
    try simp only []
    go_wp2_with (first | (with_reducible refine Own.stay (fn := Tryd.f4) ?_) | (at_builtin; refine Own.appStop ?_) | (first | (go_at_call 17; go_in)))
    try with_reducible refine Own.Stay.mk ?_
    rw [HX1_105.out] at hO
    have hN := hO.bring HBX1_105.out
    clear hO
    have hO := hN
    clear hN
    refine bodyPost_ret (v := .bool true) ?_ rfl ⟨rfl, hO.sub [] (by decide)⟩
    simp [results, Tryd.results4, go_sem]
  · skip
    have hia8 : ¬ (i : Int) < (a : Int) := by omega
    go_wp2_with (first | (with_reducible refine Own.stay (fn := Tryd.f4) ?_) | (at_builtin; refine Own.appStop ?_) | (first | (go_at_call 17; go_in)))
    try with_reducible refine Own.Stay.mk ?_
    have hL := hO.apart
    have hX := hO.apartX
    have HL := Lib.hid hL
    have HX := Lib.hid hX
    clear hL hX
    have hP9 := hO.pick [6] (by decide)
    have h9_ha5 : a ≤ 10000 := (by omega)
    have T9 := allDist bu s a cu _ _ _ hP9 h9_ha5
    refine Calls.mono T9 ?_
    clear hP9 T9 h9_ha5
    rintro e uw108 ⟨rfl, hQ⟩
    have hN : Own w0 uw108 [row (bu) 9 (full strZ (tnm s a) cu), row (nd4) 176 PC, row (sb) 183 (full symZ (symL (stB s B j)) c), row (B1) 38 MC, row (ba) 33 (full refZ (gL src j) ca), row (bt) 33 (full refZ (rS src B true j) ct), row (bp) 33 (full refZ (rS src B false j) cp9), row (bv) 9 (full strZ (tnm s b) cv)] X1_9 := hQ.back HL.out HX.out [0, 1, 2, 3, 4, 5, 7] (by decide) (by decide)
    clear hQ HL HX hO
    have hO := hN
    clear hN
    try simp only []
    go_wp2_with (first | (with_reducible refine Own.stay (fn := Tryd.f4) ?_) | (at_builtin; refine Own.appStop ?_) | (first | (go_at_call 17; go_in)))
    try with_reducible refine Own.Stay.mk ?_
    have hL := hO.apart
    have hX := hO.apartX
    have HL := Lib.hid hL
    have HX := Lib.hid hX
    clear hL hX
    have hP9 := hO.pick [7] (by decide)
    have h9_ha5 : b ≤ 10000 := (by omega)
    have T9 := allDist bv s b cv _ _ _ hP9 h9_ha5
    refine Calls.mono T9 ?_
    clear hP9 T9 h9_ha5
    rintro e uw109 ⟨rfl, hQ⟩
    have hN : Own w0 uw109 [row (bv) 9 (full strZ (tnm s b) cv), row (bu) 9 (full strZ (tnm s a) cu), row (nd4) 176 PC, row (sb) 183 (full symZ (symL (stB s B j)) c), row (B1) 38 MC, row (ba) 33 (full refZ (gL src j) ca), row (bt) 33 (full refZ (rS src B true j) ct), row (bp) 33 (full refZ (rS src B false j) cp9)] X1_9 := hQ.back HL.out HX.out [0, 1, 2, 3, 4, 5, 6] (by decide) (by decide)
    clear hQ HL HX hO
    have hO := hN
    clear hN
    try simp only []
    go_wp2_with (first | (with_reducible refine Own.stay (fn := Tryd.f4) ?_) | (at_builtin; refine Own.appStop ?_) | (first | (go_at_call 17; go_in)))
    try with_reducible refine Own.Stay.mk ?_
    have hL := hO.apart
    have hX := hO.apartX
    have HL := Lib.hid hL
    have HX := Lib.hid hX
    clear hL hX
    have hP9 := hO.pick [2] (by decide)
    have T9 := tmpCnt nd4 PC ((s : Int) + (a : Int)) _ _ _ hP9 hk287
    refine Calls.mono T9 ?_
    clear hP9 T9
    rintro e uw110 ⟨rfl, hQ⟩
    have hN : Own w0 uw110 [row (nd4) 176 PC, row (bv) 9 (full strZ (tnm s b) cv), row (bu) 9 (full strZ (tnm s a) cu), row (sb) 183 (full symZ (symL (stB s B j)) c), row (B1) 38 MC, row (ba) 33 (full refZ (gL src j) ca), row (bt) 33 (full refZ (rS src B true j) ct), row (bp) 33 (full refZ (rS src B false j) cp9)] X1_9 := hQ.back HL.out HX.out [0, 1, 3, 4, 5, 6, 7] (by decide) (by decide)
    clear hQ HL HX hO
    have hO := hN
    clear hN
    try simp only []
    go_wp2_with (first | (with_reducible refine Own.stay (fn := Tryd.f4) ?_) | (at_builtin; refine Own.appStop ?_) | (first | (go_at_call 17; go_in)))
    try with_reducible refine Own.Stay.mk ?_
    have hL := hO.apart
    have hX := hO.apartX
    have HL := Lib.hid hL
    have HX := Lib.hid hX
    clear hL hX
    have hP9 := hO.pick [0] (by decide)
    have T9 := topCnt nd4 PC ((s : Int) + (b : Int)) _ _ _ hP9 hk288
    refine Calls.mono T9 ?_
    clear hP9 T9
    rintro e uw111 ⟨rfl, hQ⟩
    have hN : Own w0 uw111 [row (nd4) 176 PC, row (bv) 9 (full strZ (tnm s b) cv), row (bu) 9 (full strZ (tnm s a) cu), row (sb) 183 (full symZ (symL (stB s B j)) c), row (B1) 38 MC, row (ba) 33 (full refZ (gL src j) ca), row (bt) 33 (full refZ (rS src B true j) ct), row (bp) 33 (full refZ (rS src B false j) cp9)] X1_9 := hQ.back HL.out HX.out [1, 2, 3, 4, 5, 6, 7] (by decide) (by decide)
    clear hQ HL HX hO
    have hO := hN
    clear hN
    try simp only []
    obtain ⟨ix9, hix9, hax9, hjx9⟩ := hO.ix
    have ix9_0 : ix9 nd4 = 0 := hjx9 0 _ _ rfl
    have ix9_1 : ix9 bv = 1 := hjx9 1 _ _ rfl
    have ix9_2 : ix9 bu = 2 := hjx9 2 _ _ rfl
    have ix9_3 : ix9 sb = 3 := hjx9 3 _ _ rfl
    have ix9_4 : ix9 B1 = 4 := hjx9 4 _ _ rfl
    have ix9_5 : ix9 ba = 5 := hjx9 5 _ _ rfl
    have ix9_6 : ix9 bt = 6 := hjx9 6 _ _ rfl
    have ix9_7 : ix9 bp = 7 := hjx9 7 _ _ rfl
    clear hjx9
    have c9_0_32 : uw111.cell? ⟨nd4, 32, none⟩ = some (.bool false) := hO.cell 0 rfl (32) (hk32)
    have c9_0_66 : uw111.cell? ⟨nd4, 66, none⟩ = some (.int .u32 src) := hO.cell 0 rfl (66) (hk66)
    have c9_0_104 : uw111.cell? ⟨nd4, 104, none⟩ = some (.pointer (some ⟨B1, 0, none⟩)) := hO.cell 0 rfl (104) (hk104)
    have c9_0_106 : uw111.cell? ⟨nd4, 106, none⟩ = some (.slice (some ⟨sb, 0, none⟩) j (j + c)) := hO.cell 0 rfl (106) (hk106)
    have c9_0_187 : uw111.cell? ⟨nd4, 187, none⟩ = some (.pointer (some ⟨B1, 0, none⟩)) := hO.cell 0 rfl (187) (hk187)
    have c9_0_198 : uw111.cell? ⟨nd4, 198, none⟩ = some (.slice none 0 0) := hO.cell 0 rfl (198) (hk198)
    have c9_0_199 : uw111.cell? ⟨nd4, 199, none⟩ = some (oS a qb cq) := hO.cell 0 rfl (199) (hk199)
    have c9_0_200 : uw111.cell? ⟨nd4, 200, none⟩ = some (oS b lb cl) := hO.cell 0 rfl (200) (hk200)
    have c9_0_287 : uw111.cell? ⟨nd4, 287, none⟩ = some (.int .i64 ((s : Int) + (a : Int))) := hO.cell 0 rfl (287) (hk287)
    have c9_0_288 : uw111.cell? ⟨nd4, 288, none⟩ = some (.int .i64 ((s : Int) + (b : Int))) := hO.cell 0 rfl (288) (hk288)
    have lt9_0 : nd4 < uw111.heap.size := hO.lt 0 rfl
    have y9_0 : ∀ o, uw111.frozen? ⟨nd4, o, none⟩ = false := hO.free 0 rfl
    have pl9_1 : Base.plainAt uw111 (bv) = true := hO.plain 1 rfl
    have pl9_2 : Base.plainAt uw111 (bu) = true := hO.plain 2 rfl
    have c9_4_5 : uw111.cell? ⟨B1, 5, none⟩ = some (oS j gb cg) := hO.cell 4 rfl (5) (hm5)
    have c9_4_15 : uw111.cell? ⟨B1, 15, none⟩ = some (.int .u8 6) := hO.cell 4 rfl (15) (hm15)
    have lt9_4 : B1 < uw111.heap.size := hO.lt 4 rfl
    have y9_4 : ∀ o, uw111.frozen? ⟨B1, o, none⟩ = false := hO.free 4 rfl
    have pl9_5 : Base.plainAt uw111 (ba) = true := hO.plain 5 rfl
    have pl9_6 : Base.plainAt uw111 (bt) = true := hO.plain 6 rfl
    have pl9_7 : Base.plainAt uw111 (bp) = true := hO.plain 7 rfl
    have HO := Lib.hid hO
    clear hO
    go_wp2_with (first | (with_reducible refine Own.stay (fn := Tryd.f4) ?_) | (at_builtin; refine Own.appStop ?_) | (first | (go_at_call 17; go_in)))
    try with_reducible refine Own.Stay.mk ?_
    have hO := HO.out
    clear HO hix9 hax9 ix9_0 ix9_1 ix9_2 ix9_3 ix9_4 ix9_5 ix9_6 ix9_7 ix9 c9_0_32 c9_0_66 c9_0_104 c9_0_106 c9_0_187 c9_0_198 c9_0_199 c9_0_200 c9_0_287 c9_0_288 lt9_0 y9_0 pl9_1 pl9_2 c9_4_5 c9_4_15 lt9_4 y9_4 pl9_5 pl9_6 pl9_7
    have hN : Own w0 uw111 [row (ba) 33 (full refZ (gL src j) ca), row (nd4) 176 PC, row (bv) 9 (full strZ (tnm s b) cv), row (bu) 9 (full strZ (tnm s a) cu), row (sb) 183 (full symZ (symL (stB s B j)) c), row (B1) 38 MC, row (bt) 33 (full refZ (rS src B true j) ct), row (bp) 33 (full refZ (rS src B false j) cp9)] X1_9 := hO.sub [5, 0, 1, 2, 3, 4, 6, 7] (by decide)
    clear hO
    have hO := hN
    clear hN
    rw [HX1_9.out] at hO
    have hN := hO.bring HBX1_9.out
    clear hO
    have hO := hN
    clear hN
    have hP9 : Own w0 uw111 (([row (ba) 33 (full refZ (gL src j) ca)] ++ (optl j (row (gb) 33 (full refZ (gL src j) cg)))) ++ ([row (nd4) 176 PC, row (bv) 9 (full strZ (tnm s b) cv), row (bu) 9 (full strZ (tnm s a) cu), row (sb) 183 (full symZ (symL (stB s B j)) c), row (B1) 38 MC, row (bt) 33 (full refZ (rS src B true j) ct), row (bp) 33 (full refZ (rS src B false j) cp9)] ++ (optl a (row (qb) 185 (full trfZ (qS src B true j) cq)) ++ optl b (row (lb) 185 (full trfZ (qS src B false j) cl))))) X := hO.perm (permG [row (ba) 33 (full refZ (gL src j) ca)] [row (nd4) 176 PC, row (bv) 9 (full strZ (tnm s b) cv), row (bu) 9 (full strZ (tnm s a) cu), row (sb) 183 (full symZ (symL (stB s B j)) c), row (B1) 38 MC, row (bt) 33 (full refZ (rS src B true j) ct), row (bp) 33 (full refZ (rS src B false j) cp9)] (optl a (row (qb) 185 (full trfZ (qS src B true j) cq))) (optl b (row (lb) 185 (full trfZ (qS src B false j) cl))) (optl j (row (gb) 33 (full refZ (gL src j) cg))))
    clear hO
    have HT := Lib.hid hP9.tail
    replace hP9 := hP9.aside
    have h9_hm5 : j ≤ 10000 := (by omega)
    have T9 := sameRefs6 gb ba cg ca j src _ _ _ hP9 h9_hm5
    refine Calls.mono T9 ?_
    clear hP9 T9 h9_hm5
    rintro e uw112 ⟨rfl, hQ⟩
    replace hQ := hQ.bring HT.out
    clear HT
    have hO : Own w0 uw112 ([row (ba) 33 (full refZ (gL src j) ca), row (nd4) 176 PC, row (bv) 9 (full strZ (tnm s b) cv), row (bu) 9 (full strZ (tnm s a) cu), row (sb) 183 (full symZ (symL (stB s B j)) c), row (B1) 38 MC, row (bt) 33 (full refZ (rS src B true j) ct), row (bp) 33 (full refZ (rS src B false j) cp9)] ++ (optl a (row (qb) 185 (full trfZ (qS src B true j) cq)) ++ (optl b (row (lb) 185 (full trfZ (qS src B false j) cl)) ++ optl j (row (gb) 33 (full refZ (gL src j) cg))))) X := hQ.perm (permG [row (ba) 33 (full refZ (gL src j) ca)] [row (nd4) 176 PC, row (bv) 9 (full strZ (tnm s b) cv), row (bu) 9 (full strZ (tnm s a) cu), row (sb) 183 (full symZ (symL (stB s B j)) c), row (B1) 38 MC, row (bt) 33 (full refZ (rS src B true j) ct), row (bp) 33 (full refZ (rS src B false j) cp9)] (optl a (row (qb) 185 (full trfZ (qS src B true j) cq))) (optl b (row (lb) 185 (full trfZ (qS src B false j) cl))) (optl j (row (gb) 33 (full refZ (gL src j) cg)))).symm
    clear hQ
    try simp only []
    have HBX1_113 := Lib.hid hO.tail
    have hN := hO.aside
    obtain ⟨X1_113, hX1_113⟩ : ∃ Y, Y = FR (optl a (row (qb) 185 (full trfZ (qS src B true j) cq)) ++ (optl b (row (lb) 185 (full trfZ (qS src B false j) cl)) ++ optl j (row (gb) 33 (full refZ (gL src j) cg)))) X := ⟨_, rfl⟩
    rw [← hX1_113] at hN
    have HX1_113 := Lib.hid hX1_113
    clear hO hX1_113
    have hO := hN
    clear hN
    go_wp2_with (first | (with_reducible refine Own.stay (fn := Tryd.f4) ?_) | (at_builtin; refine Own.appStop ?_) | (first | (go_at_call 17; go_in)))
    try with_reducible refine Own.Stay.mk ?_
    have hN : Own w0 uw112 [row (nd4) 176 PC, row (ba) 33 (full refZ (gL src j) ca), row (bv) 9 (full strZ (tnm s b) cv), row (bu) 9 (full strZ (tnm s a) cu), row (sb) 183 (full symZ (symL (stB s B j)) c), row (B1) 38 MC, row (bt) 33 (full refZ (rS src B true j) ct), row (bp) 33 (full refZ (rS src B false j) cp9)] X1_113 := hO.sub [1, 0, 2, 3, 4, 5, 6, 7] (by decide)
    clear hO
    have hO := hN
    clear hN
    rw [HX1_113.out] at hO
    have hN := hO.bring HBX1_113.out
    clear hO
    have hO := hN
    clear hN
    have hP9 : Own w0 uw112 (([row (nd4) 176 PC] ++ (optl a (row (qb) 185 (full trfZ (qS src B true j) cq)))) ++ ([row (ba) 33 (full refZ (gL src j) ca), row (bv) 9 (full strZ (tnm s b) cv), row (bu) 9 (full strZ (tnm s a) cu), row (sb) 183 (full symZ (symL (stB s B j)) c), row (B1) 38 MC, row (bt) 33 (full refZ (rS src B true j) ct), row (bp) 33 (full refZ (rS src B false j) cp9)] ++ (optl b (row (lb) 185 (full trfZ (qS src B false j) cl)) ++ optl j (row (gb) 33 (full refZ (gL src j) cg))))) X := hO.perm (permQ [row (nd4) 176 PC] [row (ba) 33 (full refZ (gL src j) ca), row (bv) 9 (full strZ (tnm s b) cv), row (bu) 9 (full strZ (tnm s a) cu), row (sb) 183 (full symZ (symL (stB s B j)) c), row (B1) 38 MC, row (bt) 33 (full refZ (rS src B true j) ct), row (bp) 33 (full refZ (rS src B false j) cp9)] (optl a (row (qb) 185 (full trfZ (qS src B true j) cq))) (optl b (row (lb) 185 (full trfZ (qS src B false j) cl))) (optl j (row (gb) 33 (full refZ (gL src j) cg))))
    clear hO
    have HT := Lib.hid hP9.tail
    replace hP9 := hP9.aside
    have h9_hj5 : j ≤ 10000 := (by omega)
    have h9_ha : cn B true j = a := (by first | assumption | omega | (simp; done) | (simp; omega))
    have T9 := rdl6R nd4 PC src B j a qb cq _ _ _ hP9 hk199 h9_hj5 h9_ha
    refine Calls.mono T9 ?_
    clear hP9 T9 h9_hj5 h9_ha
    rintro e uw114 ⟨nd115, nd116, rfl, hQ⟩
    replace hQ := hQ.bring HT.out
    clear HT
    have hO : Own w0 uw114 ([row (nd4) 176 PC, row (nd115) 33 (full refZ (rS src B true j) nd116), row (ba) 33 (full refZ (gL src j) ca), row (bv) 9 (full strZ (tnm s b) cv), row (bu) 9 (full strZ (tnm s a) cu), row (sb) 183 (full symZ (symL (stB s B j)) c), row (B1) 38 MC, row (bt) 33 (full refZ (rS src B true j) ct), row (bp) 33 (full refZ (rS src B false j) cp9)] ++ (optl a (row (qb) 185 (full trfZ (qS src B true j) cq)) ++ (optl b (row (lb) 185 (full trfZ (qS src B false j) cl)) ++ optl j (row (gb) 33 (full refZ (gL src j) cg))))) X := hQ.perm (permQ [row (nd4) 176 PC, row (nd115) 33 (full refZ (rS src B true j) nd116)] [row (ba) 33 (full refZ (gL src j) ca), row (bv) 9 (full strZ (tnm s b) cv), row (bu) 9 (full strZ (tnm s a) cu), row (sb) 183 (full symZ (symL (stB s B j)) c), row (B1) 38 MC, row (bt) 33 (full refZ (rS src B true j) ct), row (bp) 33 (full refZ (rS src B false j) cp9)] (optl a (row (qb) 185 (full trfZ (qS src B true j) cq))) (optl b (row (lb) 185 (full trfZ (qS src B false j) cl))) (optl j (row (gb) 33 (full refZ (gL src j) cg)))).symm
    clear hQ
    try simp only []
    have HBX1_117 := Lib.hid hO.tail
    have hN := hO.aside
    obtain ⟨X1_117, hX1_117⟩ : ∃ Y, Y = FR (optl a (row (qb) 185 (full trfZ (qS src B true j) cq)) ++ (optl b (row (lb) 185 (full trfZ (qS src B false j) cl)) ++ optl j (row (gb) 33 (full refZ (gL src j) cg)))) X := ⟨_, rfl⟩
    rw [← hX1_117] at hN
    have HX1_117 := Lib.hid hX1_117
    clear hO hX1_117
    have hO := hN
    clear hN
    go_wp2_with (first | (with_reducible refine Own.stay (fn := Tryd.f4) ?_) | (at_builtin; refine Own.appStop ?_) | (first | (go_at_call 17; go_in)))
    try with_reducible refine Own.Stay.mk ?_
    have hL := hO.apart
    have hX := hO.apartX
    have HL := Lib.hid hL
    have HX := Lib.hid hX
    clear hL hX
    have hP9 := hO.pick [1, 7] (by decide)
    have h9_hm5 : j ≤ 10000 := (by omega)
    have h9_ha : cn B true j = a := (by first | assumption | omega | (simp; done) | (simp; omega))
    have T9 := sameRefsBt nd115 bt nd116 ct a src B j _ _ _ hP9 h9_hm5 h9_ha
    refine Calls.mono T9 ?_
    clear hP9 T9 h9_hm5 h9_ha
    rintro e uw118 ⟨rfl, hQ⟩
    have hN : Own w0 uw118 [row (nd115) 33 (full refZ (rS src B true j) nd116), row (bt) 33 (full refZ (rS src B true j) ct), row (nd4) 176 PC, row (ba) 33 (full refZ (gL src j) ca), row (bv) 9 (full strZ (tnm s b) cv), row (bu) 9 (full strZ (tnm s a) cu), row (sb) 183 (full symZ (symL (stB s B j)) c), row (B1) 38 MC, row (bp) 33 (full refZ (rS src B false j) cp9)] X1_117 := hQ.back HL.out HX.out [0, 2, 3, 4, 5, 6, 8] (by decide) (by decide)
    clear hQ HL HX hO
    have hO := hN
    clear hN
    try simp only []
    go_wp2_with (first | (with_reducible refine Own.stay (fn := Tryd.f4) ?_) | (at_builtin; refine Own.appStop ?_) | (first | (go_at_call 17; go_in)))
    try with_reducible refine Own.Stay.mk ?_
    have hN : Own w0 uw118 [row (nd4) 176 PC, row (nd115) 33 (full refZ (rS src B true j) nd116), row (bt) 33 (full refZ (rS src B true j) ct), row (ba) 33 (full refZ (gL src j) ca), row (bv) 9 (full strZ (tnm s b) cv), row (bu) 9 (full strZ (tnm s a) cu), row (sb) 183 (full symZ (symL (stB s B j)) c), row (B1) 38 MC, row (bp) 33 (full refZ (rS src B false j) cp9)] X1_117 := hO.sub [2, 0, 1, 3, 4, 5, 6, 7, 8] (by decide)
    clear hO
    have hO := hN
    clear hN
    rw [HX1_117.out] at hO
    have hN := hO.bring HBX1_117.out
    clear hO
    have hO := hN
    clear hN
    have hP9 : Own w0 uw118 (([row (nd4) 176 PC] ++ (optl b (row (lb) 185 (full trfZ (qS src B false j) cl)))) ++ ([row (nd115) 33 (full refZ (rS src B true j) nd116), row (bt) 33 (full refZ (rS src B true j) ct), row (ba) 33 (full refZ (gL src j) ca), row (bv) 9 (full strZ (tnm s b) cv), row (bu) 9 (full strZ (tnm s a) cu), row (sb) 183 (full symZ (symL (stB s B j)) c), row (B1) 38 MC, row (bp) 33 (full refZ (rS src B false j) cp9)] ++ (optl a (row (qb) 185 (full trfZ (qS src B true j) cq)) ++ optl j (row (gb) 33 (full refZ (gL src j) cg))))) X := hO.perm (permT [row (nd4) 176 PC] [row (nd115) 33 (full refZ (rS src B true j) nd116), row (bt) 33 (full refZ (rS src B true j) ct), row (ba) 33 (full refZ (gL src j) ca), row (bv) 9 (full strZ (tnm s b) cv), row (bu) 9 (full strZ (tnm s a) cu), row (sb) 183 (full symZ (symL (stB s B j)) c), row (B1) 38 MC, row (bp) 33 (full refZ (rS src B false j) cp9)] (optl a (row (qb) 185 (full trfZ (qS src B true j) cq))) (optl b (row (lb) 185 (full trfZ (qS src B false j) cl))) (optl j (row (gb) 33 (full refZ (gL src j) cg))))
    clear hO
    have HT := Lib.hid hP9.tail
    replace hP9 := hP9.aside
    have h9_hj5 : j ≤ 10000 := (by omega)
    have T9 := rdl6L nd4 PC src B j _ _ _ _ _ _ hP9 (by first | assumption | omega | (simp; done) | (simp; omega)) h9_hj5 (by first | assumption | omega | (simp; done) | (simp; omega))
    refine Calls.mono T9 ?_
    clear hP9 T9 h9_hj5
    rintro e uw119 ⟨nd120, nd121, rfl, hQ⟩
    replace hQ := hQ.bring HT.out
    clear HT
    have hO : Own w0 uw119 ([row (nd4) 176 PC, row (nd120) 33 (full refZ (rS src B false j) nd121), row (nd115) 33 (full refZ (rS src B true j) nd116), row (bt) 33 (full refZ (rS src B true j) ct), row (ba) 33 (full refZ (gL src j) ca), row (bv) 9 (full strZ (tnm s b) cv), row (bu) 9 (full strZ (tnm s a) cu), row (sb) 183 (full symZ (symL (stB s B j)) c), row (B1) 38 MC, row (bp) 33 (full refZ (rS src B false j) cp9)] ++ (optl a (row (qb) 185 (full trfZ (qS src B true j) cq)) ++ (optl b (row (lb) 185 (full trfZ (qS src B false j) cl)) ++ optl j (row (gb) 33 (full refZ (gL src j) cg))))) X := hQ.perm (permT [row (nd4) 176 PC, row (nd120) 33 (full refZ (rS src B false j) nd121)] [row (nd115) 33 (full refZ (rS src B true j) nd116), row (bt) 33 (full refZ (rS src B true j) ct), row (ba) 33 (full refZ (gL src j) ca), row (bv) 9 (full strZ (tnm s b) cv), row (bu) 9 (full strZ (tnm s a) cu), row (sb) 183 (full symZ (symL (stB s B j)) c), row (B1) 38 MC, row (bp) 33 (full refZ (rS src B false j) cp9)] (optl a (row (qb) 185 (full trfZ (qS src B true j) cq))) (optl b (row (lb) 185 (full trfZ (qS src B false j) cl))) (optl j (row (gb) 33 (full refZ (gL src j) cg)))).symm
    clear hQ
    try simp only []
    have HBX1_122 := Lib.hid hO.tail
    have hN := hO.aside
    obtain ⟨X1_122, hX1_122⟩ : ∃ Y, Y = FR (optl a (row (qb) 185 (full trfZ (qS src B true j) cq)) ++ (optl b (row (lb) 185 (full trfZ (qS src B false j) cl)) ++ optl j (row (gb) 33 (full refZ (gL src j) cg)))) X := ⟨_, rfl⟩
    rw [← hX1_122] at hN
    have HX1_122 := Lib.hid hX1_122
    clear hO hX1_122
    have hO := hN
    clear hN
    go_wp2_with (first | (with_reducible refine Own.stay (fn := Tryd.f4) ?_) | (at_builtin; refine Own.appStop ?_) | (first | (go_at_call 17; go_in)))
    try with_reducible refine Own.Stay.mk ?_
    have hL := hO.apart
    have hX := hO.apartX
    have HL := Lib.hid hL
    have HX := Lib.hid hX
    clear hL hX
    have hP9 := hO.pick [1, 9] (by decide)
    have h9_hm5 : j ≤ 10000 := (by omega)
    have h9_ha : cn B false j = b := (by first | assumption | omega | (simp; done) | (simp; omega))
    have T9 := sameRefsBf nd120 bp nd121 cp9 b src B j _ _ _ hP9 h9_hm5 h9_ha
    refine Calls.mono T9 ?_
    clear hP9 T9 h9_hm5 h9_ha
    rintro e uw123 ⟨rfl, hQ⟩
    have hN : Own w0 uw123 [row (nd120) 33 (full refZ (rS src B false j) nd121), row (bp) 33 (full refZ (rS src B false j) cp9), row (nd4) 176 PC, row (nd115) 33 (full refZ (rS src B true j) nd116), row (bt) 33 (full refZ (rS src B true j) ct), row (ba) 33 (full refZ (gL src j) ca), row (bv) 9 (full strZ (tnm s b) cv), row (bu) 9 (full strZ (tnm s a) cu), row (sb) 183 (full symZ (symL (stB s B j)) c), row (B1) 38 MC] X1_122 := hQ.back HL.out HX.out [0, 2, 3, 4, 5, 6, 7, 8] (by decide) (by decide)
    clear hQ HL HX hO
    have hO := hN
    clear hN
    try simp only []
    go_wp2_with (first | (with_reducible refine Own.stay (fn := Tryd.f4) ?_) | (at_builtin; refine Own.appStop ?_) | (first | (go_at_call 17; go_in)))
    try with_reducible refine Own.Stay.mk ?_
    have hL := hO.apart
    have hX := hO.apartX
    have HL := Lib.hid hL
    have HX := Lib.hid hX
    clear hL hX
    have hP9 := hO.pick [2] (by decide)
    have h9_hk198 : PC[198]? = some (.slice none 0 0) := (by first | assumption | omega | (simp; done) | (simp; omega))
    have T9 := tmpLets0 nd4 PC _ _ _ hP9 h9_hk198
    refine Calls.mono T9 ?_
    clear hP9 T9 h9_hk198
    rintro e uw124 ⟨rfl, hQ⟩
    have hN : Own w0 uw124 [row (nd4) 176 PC, row (nd120) 33 (full refZ (rS src B false j) nd121), row (bp) 33 (full refZ (rS src B false j) cp9), row (nd115) 33 (full refZ (rS src B true j) nd116), row (bt) 33 (full refZ (rS src B true j) ct), row (ba) 33 (full refZ (gL src j) ca), row (bv) 9 (full strZ (tnm s b) cv), row (bu) 9 (full strZ (tnm s a) cu), row (sb) 183 (full symZ (symL (stB s B j)) c), row (B1) 38 MC] X1_122 := hQ.back HL.out HX.out [0, 1, 3, 4, 5, 6, 7, 8, 9] (by decide) (by decide)
    clear hQ HL HX hO
    have hO := hN
    clear hN
    try simp only []
    go_wp2_with (first | (with_reducible refine Own.stay (fn := Tryd.f4) ?_) | (at_builtin; refine Own.appStop ?_) | (first | (go_at_call 17; go_in)))
    try with_reducible refine Own.Stay.mk ?_
    rw [HX1_122.out] at hO
    have hN := hO.bring HBX1_122.out
    clear hO
    have hO := hN
    clear hN
    refine bodyPost_ret (v := .bool true) ?_ rfl ⟨rfl, hO.sub [] (by decide)⟩
    simp [results, Tryd.results4, go_sem]
end Go.Proofs.YtkmojepgbbdeiaaDoor.Use
