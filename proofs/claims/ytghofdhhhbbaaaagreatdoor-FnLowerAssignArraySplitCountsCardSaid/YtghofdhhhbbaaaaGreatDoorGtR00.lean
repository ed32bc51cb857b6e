/- A temporary, made: one of the cases. No condition. -/
import Derived.Test.YtghofdhhhbbaaaaGreatDoorMno
import Derived.Test.YtghofdhhhbbaaaaGreatDoorMini
import Derived.Test.YtghofdhhhbbaaaaGreatDoorAppL
import Derived.Test.YtghofdhhhbbaaaaGreatDoorApp
import Derived.Test.YtghofdhhhbbaaaaGreatDoorOwnK
import Derived.Test.YtghofdhhhbbaaaaGreatDoorOwn
import Derived.Test.YtghofdhhhbbaaaaGreatDoorDeepCells
import Derived.Test.YtghofdhhhbbaaaaGreatDoorRows
import Derived.Test.YtghofdhhhbbaaaaGreatDoorLive
namespace Go.Proofs.YtghofdhhhbbaaaaGreatDoor.Use
open Go.ChangeShapes Go.WideShapes Go.ChangeAt Go.RowKit Go.Sort Own
set_option linter.unusedVariables false
def r4R001E (pb : Nat) (PC : Array Value) (i : Nat) : Nat → Rega.Atoms → Value
  | 0, α => .agg #[.string ⟨#[97, 98, 99, 100, 101, 102, 103, 104, 105, 106, 107, 108, 109, 110, 111, 112, 113, 114, 115, 116, 117, 118, 119, 120, 121, 122, 65, 66, 67, 68, 69, 70, 71, 72, 73, 74, 75, 76, 77, 78, 79, 80, 81, 82, 83, 84, 85, 86, 87, 88, 89, 90, 95, 36]⟩, .string ⟨#[97, 98, 99, 100, 101, 102, 103, 104, 105, 106, 107, 108, 109, 110, 111, 112, 113, 114, 115, 116, 117, 118, 119, 120, 121, 122, 65, 66, 67, 68, 69, 70, 71, 72, 73, 74, 75, 76, 77, 78, 79, 80, 81, 82, 83, 84, 85, 86, 87, 88, 89, 90, 48, 49, 50, 51, 52, 53, 54, 55, 56, 57, 95, 36]⟩]
  | 1, α => .pointer (some ⟨pb, 0, none⟩)
  | 2, α => .pointer (some ⟨pb, 0, none⟩)
  | 3, α => .pointer (some ⟨pb, 287, none⟩)
  | 4, α => .int .i64 (i : Int)
  | 5, α => .string (nmB i)
  | 6, α => .string (⟨#[95]⟩ ++ (nmB i))
  | 7, α => .string (⟨#[95]⟩ ++ (nmB i))
  | _, _ => undef
def r4R001Anc : Nat → List Nat
  | 2 => [1]
  | 3 => [1, 2]
  | 4 => [1, 2, 3]
  | 5 => [0, 1, 2, 3, 4]
  | 6 => [0, 1, 2, 3, 4, 5]
  | 7 => [0, 1, 2, 3, 4, 5, 6]
  | _ => []
def r4R001Trn : Nat → List Nat
  | _ => []
def r4R001Cnt : List (Nat × Nat) := []
def r4R001R (pb : Nat) (PC : Array Value) (i : Nat) (L9 : Nat → Bool) (α : Rega.Atoms) (ix9 : Nat) : Rw := if ix9 = 999 then row (pb) 182 PC else (0, .map #[] 0)
theorem r4R001_he (pb : Nat) (PC : Array Value) (i : Nat) : ∀ kk α α', (∀ j, (j % 1000 = kk ∨ j % 1000 ∈ r4R001Anc kk) → α j = α' j) → r4R001E pb PC i kk α = r4R001E pb PC i kk α' := by
  intro kk α α' h
  match kk with
  | 0 => rfl
  | 1 => rfl
  | 2 => rfl
  | 3 => rfl
  | 4 => rfl
  | 5 => rfl
  | 6 => rfl
  | 7 => rfl
  | n + 8 => rfl
theorem r4R001_st (pb : Nat) (PC : Array Value) (i : Nat) : Stable r4R001Cnt 1 r4R001Anc r4R001Trn (r4R001R pb PC i) := by
  intro k9 L9 α α' ix9 hk hcl hα hact ht
  have hp := act_places hact
  replace hp : ix9 ∈ [999] := hp
  simp only [List.mem_cons, List.not_mem_nil, or_false] at hp
  subst hp
  rfl
def r4R003E (pb : Nat) (PC : Array Value) (n : Nat) (src : Int) (i : Nat) (nd7 : Nat) (nd8 : Nat) (B9 : Nat) : Nat → Rega.Atoms → Value
  | 0, α => .pointer (some ⟨pb, 0, none⟩)
  | 1, α => .pointer (some ⟨pb, 0, none⟩)
  | 2, α => .pointer (some ⟨pb, 0, none⟩)
  | 3, α => .pointer (some ⟨pb, 199, none⟩)
  | 4, α => .slice none 0 0
  | 5, α => .agg #[.int .u32 src, .int .u32 (n : Int)]
  | 6, α => .agg #[.nilIface, .int .i32 0, .int .u32 src, .int .u32 (n : Int)]
  | 7, α => .slice (some ⟨α 7, 0, none⟩) 1 1
  | 8, α => .slice (some ⟨α 8, 0, none⟩) 1 (1 + α 1008)
  | 9, α => .pointer (some ⟨pb, 0, none⟩)
  | 10, α => .pointer (some ⟨pb, 199, none⟩)
  | 11, α => undef
  | _, _ => undef
def r4R003Anc : Nat → List Nat
  | 2 => [1]
  | 3 => [1, 2]
  | 4 => [1, 2, 3]
  | 6 => [5]
  | 7 => [5, 6]
  | 8 => [1, 2, 3, 4, 5, 6, 7]
  | 9 => [0, 1, 2, 3, 4, 5, 6, 7, 8]
  | 10 => [0, 1, 2, 3, 4, 5, 6, 7, 8, 9]
  | 11 => [0, 1, 2, 3, 4, 5, 6, 7, 8, 9, 10]
  | _ => []
def r4R003Trn : Nat → List Nat
  | 11 => [1999]
  | _ => []
def r4R003Cnt : List (Nat × Nat) := [(7, 1), (8, 1)]
def r4R003T1999 (pb : Nat) (PC : Array Value) (n : Nat) (src : Int) (i : Nat) (nd7 : Nat) (nd8 : Nat) (B9 : Nat) (L9 : Nat → Bool) (α : Rega.Atoms) : Rw := if L9 11 = true then row (pb) 182 (((PC.setIfInBounds 287 (.int .i64 ((i : Int) + 1))).setIfInBounds 106 (.slice (some ⟨nd7, 0, none⟩) (n + 1) (n + 1 + nd8))).setIfInBounds 199 (.slice (some ⟨α 8, 0, none⟩) 1 (1 + α 1008))) else row (pb) 182 ((PC.setIfInBounds 287 (.int .i64 ((i : Int) + 1))).setIfInBounds 106 (.slice (some ⟨nd7, 0, none⟩) (n + 1) (n + 1 + nd8)))
def r4R003R (pb : Nat) (PC : Array Value) (n : Nat) (src : Int) (i : Nat) (nd7 : Nat) (nd8 : Nat) (B9 : Nat) (L9 : Nat → Bool) (α : Rega.Atoms) (ix9 : Nat) : Rw := if ix9 = 999 then row (B9) 58 #[.int .u32 src, .int .u32 (n : Int)] else if ix9 = 1999 then r4R003T1999 pb PC n src i nd7 nd8 B9 L9 α else if ix9 = 7 then row (α 7) 295 #[.nilIface, .int .i32 0, .int .u32 src, .int .u32 (n : Int)] else if ix9 = 8 then row (α 8) 295 (full trfZ [.nilIface, .int .i32 0, .int .u32 src, .int .u32 (n : Int)] (α 1008)) else (0, .map #[] 0)
theorem r4R003_he (pb : Nat) (PC : Array Value) (n : Nat) (src : Int) (i : Nat) (nd7 : Nat) (nd8 : Nat) (B9 : Nat) : ∀ kk α α', (∀ j, (j % 1000 = kk ∨ j % 1000 ∈ r4R003Anc kk) → α j = α' j) → r4R003E pb PC n src i nd7 nd8 B9 kk α = r4R003E pb PC n src i nd7 nd8 B9 kk α' := by
  intro kk α α' h
  match kk with
  | 0 => rfl
  | 1 => rfl
  | 2 => rfl
  | 3 => rfl
  | 4 => rfl
  | 5 => rfl
  | 6 => rfl
  | 7 => simp only [r4R003E, h 7 (Or.inl rfl)]
  | 8 => simp only [r4R003E, h 8 (Or.inl rfl), h 1008 (Or.inl rfl)]
  | 9 => rfl
  | 10 => rfl
  | 11 => rfl
  | n + 12 => rfl
theorem r4R003_st (pb : Nat) (PC : Array Value) (n : Nat) (src : Int) (i : Nat) (nd7 : Nat) (nd8 : Nat) (B9 : Nat) : Stable r4R003Cnt 2 r4R003Anc r4R003Trn (r4R003R pb PC n src i nd7 nd8 B9) := by
  intro k9 L9 α α' ix9 hk hcl hα hact ht
  have hp := act_places hact
  replace hp : ix9 ∈ [999, 1999, 7, 8] := hp
  simp only [List.mem_cons, List.not_mem_nil, or_false] at hp
  rcases hp with rfl | rfl | rfl | rfl
  · rfl
  · show r4R003T1999 pb PC n src i nd7 nd8 B9 (Rega.ran L9 k9) α' = r4R003T1999 pb PC n src i nd7 nd8 B9 L9 α
    unfold r4R003T1999
    have n11 : 11 ≠ k9 := fun e => ht (by rw [← e]; decide)
    rw [ran_ne n11]
    by_cases e11 : L9 11 = true
    · first | rw [if_pos e11, if_pos e11] | rw [if_pos e11]
      try simp only [hα 8 (ne_ran hk (hcl 11 e11 8 (by decide))), hα 1008 (ne_ran hk (hcl 11 e11 8 (by decide)))]
    first | rw [if_neg e11, if_neg e11] | rw [if_neg e11]
  · have e0 : L9 7 = true := act_lt hact (by decide)
    show row (α' 7) 295 #[.nilIface, .int .i32 0, .int .u32 src, .int .u32 (n : Int)] = row (α 7) 295 #[.nilIface, .int .i32 0, .int .u32 src, .int .u32 (n : Int)]
    simp only [hα 7 (ne_ran hk e0)]
  · have e0 : L9 8 = true := act_lt hact (by decide)
    show row (α' 8) 295 (full trfZ [.nilIface, .int .i32 0, .int .u32 src, .int .u32 (n : Int)] (α' 1008)) = row (α 8) 295 (full trfZ [.nilIface, .int .i32 0, .int .u32 src, .int .u32 (n : Int)] (α 1008))
    simp only [hα 8 (ne_ran hk e0), hα 1008 (ne_ran hk e0)]
def r4R004E (n : Nat) (src : Int) (ms : Nat) (MC : Array Value) (B9 : Nat) : Nat → Rega.Atoms → Value
  | 0, α => .pointer (some ⟨ms, 0, none⟩)
  | 1, α => .pointer (some ⟨ms, 0, none⟩)
  | 2, α => .pointer (some ⟨ms, 0, none⟩)
  | 3, α => .pointer (some ⟨ms, 5, none⟩)
  | 4, α => .slice none 0 0
  | 5, α => .agg #[.int .u32 src, .int .u32 (n : Int)]
  | 6, α => .slice (some ⟨α 6, 0, none⟩) 1 1
  | 7, α => .slice (some ⟨α 7, 0, none⟩) 1 (1 + α 1007)
  | 8, α => .pointer (some ⟨ms, 0, none⟩)
  | 9, α => .pointer (some ⟨ms, 5, none⟩)
  | 10, α => undef
  | _, _ => undef
def r4R004Anc : Nat → List Nat
  | 2 => [1]
  | 3 => [1, 2]
  | 4 => [1, 2, 3]
  | 6 => [5]
  | 7 => [1, 2, 3, 4, 5, 6]
  | 8 => [0, 1, 2, 3, 4, 5, 6, 7]
  | 9 => [0, 1, 2, 3, 4, 5, 6, 7, 8]
  | 10 => [0, 1, 2, 3, 4, 5, 6, 7, 8, 9]
  | _ => []
def r4R004Trn : Nat → List Nat
  | 10 => [1999]
  | _ => []
def r4R004Cnt : List (Nat × Nat) := [(6, 1), (7, 1)]
def r4R004T1999 (n : Nat) (src : Int) (ms : Nat) (MC : Array Value) (B9 : Nat) (L9 : Nat → Bool) (α : Rega.Atoms) : Rw := if L9 10 = true then row (ms) 194 (MC.setIfInBounds 5 (.slice (some ⟨α 7, 0, none⟩) 1 (1 + α 1007))) else row (ms) 194 MC
def r4R004R (n : Nat) (src : Int) (ms : Nat) (MC : Array Value) (B9 : Nat) (L9 : Nat → Bool) (α : Rega.Atoms) (ix9 : Nat) : Rw := if ix9 = 999 then row (B9) 58 #[.int .u32 src, .int .u32 (n : Int)] else if ix9 = 1999 then r4R004T1999 n src ms MC B9 L9 α else if ix9 = 6 then row (α 6) 58 #[.int .u32 src, .int .u32 (n : Int)] else if ix9 = 7 then row (α 7) 58 (full refZ [.int .u32 src, .int .u32 (n : Int)] (α 1007)) else (0, .map #[] 0)
theorem r4R004_he (n : Nat) (src : Int) (ms : Nat) (MC : Array Value) (B9 : Nat) : ∀ kk α α', (∀ j, (j % 1000 = kk ∨ j % 1000 ∈ r4R004Anc kk) → α j = α' j) → r4R004E n src ms MC B9 kk α = r4R004E n src ms MC B9 kk α' := by
  intro kk α α' h
  match kk with
  | 0 => rfl
  | 1 => rfl
  | 2 => rfl
  | 3 => rfl
  | 4 => rfl
  | 5 => rfl
  | 6 => simp only [r4R004E, h 6 (Or.inl rfl)]
  | 7 => simp only [r4R004E, h 7 (Or.inl rfl), h 1007 (Or.inl rfl)]
  | 8 => rfl
  | 9 => rfl
  | 10 => rfl
  | n + 11 => rfl
theorem r4R004_st (n : Nat) (src : Int) (ms : Nat) (MC : Array Value) (B9 : Nat) : Stable r4R004Cnt 2 r4R004Anc r4R004Trn (r4R004R n src ms MC B9) := by
  intro k9 L9 α α' ix9 hk hcl hα hact ht
  have hp := act_places hact
  replace hp : ix9 ∈ [999, 1999, 6, 7] := hp
  simp only [List.mem_cons, List.not_mem_nil, or_false] at hp
  rcases hp with rfl | rfl | rfl | rfl
  · rfl
  · show r4R004T1999 n src ms MC B9 (Rega.ran L9 k9) α' = r4R004T1999 n src ms MC B9 L9 α
    unfold r4R004T1999
    have n10 : 10 ≠ k9 := fun e => ht (by rw [← e]; decide)
    rw [ran_ne n10]
    by_cases e10 : L9 10 = true
    · first | rw [if_pos e10, if_pos e10] | rw [if_pos e10]
      try simp only [hα 7 (ne_ran hk (hcl 10 e10 7 (by decide))), hα 1007 (ne_ran hk (hcl 10 e10 7 (by decide)))]
    first | rw [if_neg e10, if_neg e10] | rw [if_neg e10]
  · have e0 : L9 6 = true := act_lt hact (by decide)
    show row (α' 6) 58 #[.int .u32 src, .int .u32 (n : Int)] = row (α 6) 58 #[.int .u32 src, .int .u32 (n : Int)]
    simp only [hα 6 (ne_ran hk e0)]
  · have e0 : L9 7 = true := act_lt hact (by decide)
    show row (α' 7) 58 (full refZ [.int .u32 src, .int .u32 (n : Int)] (α' 1007)) = row (α 7) 58 (full refZ [.int .u32 src, .int .u32 (n : Int)] (α 1007))
    simp only [hα 7 (ne_ran hk e0), hα 1007 (ne_ran hk e0)]
def gtR00Post (pb : Nat) (PC : Array Value) (sb c : Nat) (st : List Sy) (n : Nat) (src : Int) (i ms : Nat) (MC : Array Value) (w0 : World) (X : Nat → Obj → Prop) (e : Ending) (w' : World) : Prop :=
  ∃ sb2 : Nat, ∃ c2 : Nat, ∃ qb2 : Nat, ∃ cq2 : Nat, ∃ gb2 : Nat, ∃ cg2 : Nat, e = .returned (.agg #[.int .u32 src, .int .u32 (n : Int)]) ∧ Own w0 w' [row (pb) 182 (((PC.setIfInBounds 287 (.int .i64 ((i : Int) + 1))).setIfInBounds 106 (.slice (some ⟨sb2, 0, none⟩) (n + 1) (n + 1 + c2))).setIfInBounds 199 (.slice (some ⟨qb2, 0, none⟩) 1 (1 + cq2))), row (sb2) 201 (full symZ (symL (st ++ [syk (tn i) 27])) c2), row (ms) 194 (MC.setIfInBounds 5 (.slice (some ⟨gb2, 0, none⟩) 1 (1 + cg2))), row (qb2) 295 (full trfZ ([.nilIface, .int .i32 0, .int .u32 src, .int .u32 (n : Int)]) cq2), row (gb2) 58 (full refZ ([.int .u32 src, .int .u32 (n : Int)]) cg2)] X
set_option maxRecDepth 100000 in
set_option maxHeartbeats 1000000 in
theorem gtR00 (pb : Nat) (PC : Array Value) (sb c : Nat) (st : List Sy) (n : Nat) (src : Int) (i ms : Nat) (MC : Array Value) (w0 w : World) (X : Nat → Obj → Prop) (hO : Own w0 w [row (pb) 182 PC, row (sb) 201 (full symZ (symL st) c), row (ms) 194 MC] X) (hk66 : PC[66]? = some (.int .u32 src)) (hk32 : PC[32]? = some (.bool false)) (hk106 : PC[106]? = some (.slice (some ⟨sb, 0, none⟩) n (n + c))) (hn : st.length = n) (hnb : n ≤ 2000000) (hk104 : PC[104]? = some (.pointer (some ⟨ms, 0, none⟩))) (hkind : MC[15]? = some (.int .u8 6)) (hk287 : PC[287]? = some (.int .i64 (i : Int))) (hk199 : PC[199]? = some (.slice none 0 0)) (hgen : MC[5]? = some (.slice none 0 0)) (hi : i ≤ 100000) (hg0 : w0.cell? ⟨0, 0, none⟩ = some (.int .u32 4294967295)) (hg1 : w0.cell? ⟨0, 1, none⟩ = some (.int .u32 4294967295)) :
    Calls Tryz.prog 41 #[.pointer (some ⟨pb, 0, none⟩), .int .u8 0, .string ⟨#[]⟩] w (gtR00Post pb PC sb c st n src i ms MC w0 X) := by
  go_enter Tryz.func41, Tryz.ntmps41
  obtain ⟨ix9, hix9, hax9, hjx9⟩ := hO.ix
  have ix9_0 : ix9 pb = 0 := hjx9 0 _ _ rfl
  have ix9_1 : ix9 sb = 1 := hjx9 1 _ _ rfl
  have ix9_2 : ix9 ms = 2 := hjx9 2 _ _ rfl
  clear hjx9
  have c9_0_32 : w.cell? ⟨pb, 32, none⟩ = some (.bool false) := hO.cell 0 rfl (32) (hk32)
  have c9_0_66 : w.cell? ⟨pb, 66, none⟩ = some (.int .u32 src) := hO.cell 0 rfl (66) (hk66)
  have c9_0_104 : w.cell? ⟨pb, 104, none⟩ = some (.pointer (some ⟨ms, 0, none⟩)) := hO.cell 0 rfl (104) (hk104)
  have c9_0_106 : w.cell? ⟨pb, 106, none⟩ = some (.slice (some ⟨sb, 0, none⟩) n (n + c)) := hO.cell 0 rfl (106) (hk106)
  have c9_0_199 : w.cell? ⟨pb, 199, none⟩ = some (.slice none 0 0) := hO.cell 0 rfl (199) (hk199)
  have c9_0_287 : w.cell? ⟨pb, 287, none⟩ = some (.int .i64 (i : Int)) := hO.cell 0 rfl (287) (hk287)
  have lt9_0 : pb < w.heap.size := hO.lt 0 rfl
  have y9_0 : ∀ o, w.frozen? ⟨pb, o, none⟩ = false := hO.free 0 rfl
  have c9_2_5 : w.cell? ⟨ms, 5, none⟩ = some (.slice none 0 0) := hO.cell 2 rfl (5) (hgen)
  have c9_2_15 : w.cell? ⟨ms, 15, none⟩ = some (.int .u8 6) := hO.cell 2 rfl (15) (hkind)
  have lt9_2 : ms < w.heap.size := hO.lt 2 rfl
  have y9_2 : ∀ o, w.frozen? ⟨ms, o, none⟩ = false := hO.free 2 rfl
  have HO := Lib.hid hO
  clear hO
  have hnz := nmB_size i (by omega)
  have htn : (⟨#[95]⟩ : ByteArray) ++ nmB i = tn i := rfl
  have hnz2 : ¬ 9223372036854775807 < 1 + (nmB i).size := by omega
  have hnz3 : ((nmB i).size : Int) ≤ 8388608 := by omega
  go_wp2_with (first | (with_reducible refine Own.stay (fn := Tryz.f41) ?_) | (first | (go_at_call 52; go_in)))
  try with_reducible refine Own.Stay.mk ?_
  have hO := HO.out
  clear HO hix9 hax9 ix9_0 ix9_1 ix9_2 ix9 c9_0_32 c9_0_66 c9_0_104 c9_0_106 c9_0_199 c9_0_287 lt9_0 y9_0 c9_2_5 c9_2_15 lt9_2 y9_2
  generalize hW : World.alloc _ _ = W2
  have hN : Own w0 W2 [row (w.heap.size) 58 #[.int .u32 0, .int .u32 0], row (pb) 182 PC, row (sb) 201 (full symZ (symL st) c), row (ms) 194 MC] X := by
    rw [← hW]
    exact (hO).alloc' _ (w.heap.size) (by simp)
  clear hW hO
  generalize w.heap.size = B1 at hN ⊢
  have hO := hN
  clear hN
  go_loopg [7] 1 (fun gf s7 wx => s7 = .pointer (some ⟨ms, 0, none⟩) ∧ Own w0 wx [row (B1) 58 #[.int .u32 0, .int .u32 0], row (pb) 182 PC, row (sb) 201 (full symZ (symL st) c), row (ms) 194 MC] X)
  case atStart => exact ⟨rfl, hO⟩
  obtain ⟨rfl, hO⟩ := hrel
  obtain ⟨ix9, hix9, hax9, hjx9⟩ := hO.ix
  have ix9_0 : ix9 B1 = 0 := hjx9 0 _ _ rfl
  have ix9_1 : ix9 pb = 1 := hjx9 1 _ _ rfl
  have ix9_2 : ix9 sb = 2 := hjx9 2 _ _ rfl
  have ix9_3 : ix9 ms = 3 := hjx9 3 _ _ rfl
  clear hjx9
  obtain ⟨c9_0_0, c9_0_1, lt9_0, y9_0, -⟩ := hO.k2 0 rfl
  have c9_1_32 : wr.cell? ⟨pb, 32, none⟩ = some (.bool false) := hO.cell 1 rfl (32) (hk32)
  have c9_1_66 : wr.cell? ⟨pb, 66, none⟩ = some (.int .u32 src) := hO.cell 1 rfl (66) (hk66)
  have c9_1_104 : wr.cell? ⟨pb, 104, none⟩ = some (.pointer (some ⟨ms, 0, none⟩)) := hO.cell 1 rfl (104) (hk104)
  have c9_1_106 : wr.cell? ⟨pb, 106, none⟩ = some (.slice (some ⟨sb, 0, none⟩) n (n + c)) := hO.cell 1 rfl (106) (hk106)
  have c9_1_199 : wr.cell? ⟨pb, 199, none⟩ = some (.slice none 0 0) := hO.cell 1 rfl (199) (hk199)
  have c9_1_287 : wr.cell? ⟨pb, 287, none⟩ = some (.int .i64 (i : Int)) := hO.cell 1 rfl (287) (hk287)
  have lt9_1 : pb < wr.heap.size := hO.lt 1 rfl
  have y9_1 : ∀ o, wr.frozen? ⟨pb, o, none⟩ = false := hO.free 1 rfl
  have c9_3_5 : wr.cell? ⟨ms, 5, none⟩ = some (.slice none 0 0) := hO.cell 3 rfl (5) (hgen)
  have c9_3_15 : wr.cell? ⟨ms, 15, none⟩ = some (.int .u8 6) := hO.cell 3 rfl (15) (hkind)
  have lt9_3 : ms < wr.heap.size := hO.lt 3 rfl
  have y9_3 : ∀ o, wr.frozen? ⟨ms, o, none⟩ = false := hO.free 3 rfl
  have HO := Lib.hid hO
  clear hO
  go_wp2_with (first | (with_reducible refine Own.stay (fn := Tryz.f41) ?_) | (first | (go_at_call 52; go_in)))
  try with_reducible refine Own.Stay.mk ?_
  have hO := HO.out
  clear HO hix9 hax9 ix9_0 ix9_1 ix9_2 ix9_3 ix9 c9_0_0 c9_0_1 lt9_0 y9_0 c9_1_32 c9_1_66 c9_1_104 c9_1_106 c9_1_199 c9_1_287 lt9_1 y9_1 c9_3_5 c9_3_15 lt9_3 y9_3
  have hL := hO.apart
  have hX := hO.apartX
  have HL := Lib.hid hL
  have HX := Lib.hid hX
  clear hL hX
  have hP9 := hO.pick [1] (by decide)
  generalize hX9_3 : Own.Rest _ _ X = X9_3 at hP9
  replace hP9 : Own w0 wr [row (pb) 182 PC] X9_3 := hP9
  clear hO
  have hO := hP9
  clear hP9
  have st9 := r4R001_st pb PC i
  refine wp_region_own (e := r4R001E pb PC i) (anc := r4R001Anc) (G := (fun L9 α u9 => OwnF w0 u9 (act r4R001Cnt 1 L9) (r4R001R pb PC i L9 α) X9_3)) (by kernel_rfl) (by kernel_rfl) (by kernel_rfl) (by kernel_rfl) (r4R001_he pb PC i) ?_ (RunsAll.all ?_) ?_
  · have hp : ∀ i, act r4R001Cnt 1 (fun _ => false) i → i ∈ [999] := by
      intro i hi
      have h9 : i % 1000 = 999 := by
        by_cases h : i % 1000 = 999
        · exact h
        · exact absurd (act_lt hi h) (by simp)
      unfold act at hi
      rw [if_pos h9] at hi
      simp only [List.mem_cons, List.not_mem_nil, or_false]
      omega
    refine hO.drew.family (fun i hi => ?_) (fun i j hi hj hij => ?_)
    · have := hp i hi
      simp only [List.mem_cons, List.not_mem_nil, or_false] at this
      subst this
      rfl
    · have h1 := hp i hi
      have h2 := hp j hj
      simp only [List.mem_cons, List.not_mem_nil, or_false] at h1 h2
      omega
  · refine ⟨?_, ?_, ?_, ?_, ?_, ?_, ?_, ?_, trivial⟩
    · intro L9 α a9 u9 K9 hL hcl hA hG hS h0 h1 hK
      replace hL : L9 0 = false := hL
      go_simp
      have hM : ∀ i, i ∈ [] → act r4R001Cnt 1 L9 i := by intro i hi; simp at hi
      have hP : Own w0 u9 [] _ := hG.pick [] (by decide) (by simp)
      clear hM
      refine Calls.mono (minJS  _ _ _ hP ) ?_
      rintro e9 u1 ⟨rfl, hQ⟩
      obtain ⟨α', hα'⟩ : ∃ α' : Rega.Atoms, α' = α := ⟨_, rfl⟩
      have hα : ∀ j, j % 1000 ≠ 0 → α' j = α j := fun j hj => by rw [hα']
      skip
      refine hK _ α' _ hα ?_ (step_call (st9) hL hcl hα [] [] (by decide) (by decide) (by decide) (M := _) ?_ hG hQ)
      · rfl
      · rfl
    · intro L9 α a9 u9 K9 hL hcl hA hG hS h0 h1 hK
      replace hL : L9 1 = false := hL
      have q0 : a9.tmps[0]? = some (.pointer (some ⟨pb, 0, none⟩)) := (h0 0 (by kernel_rfl)).trans rfl
      have s0 := Rega.eval_of q0
      go_simp
      exact hK _ α _ (fun _ _ => rfl) rfl (step_same (st9) hL hcl rfl rfl hG)
    · intro L9 α a9 u9 K9 hL hcl hA hG hS h0 h1 hK
      replace hL : L9 2 = false := hL
      have q28 : a9.tmps[28]? = some (.pointer (some ⟨pb, 0, none⟩)) := hS 1 28 (by decide) rfl (by show 28 < 88; decide)
      have s28 := Rega.eval_of q28
      go_simp
      exact hK _ α _ (fun _ _ => rfl) rfl (step_same (st9) hL hcl rfl rfl hG)
    · intro L9 α a9 u9 K9 hL hcl hA hG hS h0 h1 hK
      replace hL : L9 3 = false := hL
      have q29 : a9.tmps[29]? = some (.pointer (some ⟨pb, 0, none⟩)) := hS 2 29 (by decide) rfl (by show 29 < 88; decide)
      have s29 := Rega.eval_of q29
      go_simp
      exact hK _ α _ (fun _ _ => rfl) rfl (step_same (st9) hL hcl rfl rfl hG)
    · intro L9 α a9 u9 K9 hL hcl hA hG hS h0 h1 hK
      replace hL : L9 4 = false := hL
      have q30 : a9.tmps[30]? = some (.pointer (some ⟨pb, 287, none⟩)) := hS 3 30 (by decide) rfl (by show 30 < 88; decide)
      have s30 := Rega.eval_of q30
      have e0 : r4R001R pb PC i L9 α 999 = row (pb) 182 PC := rfl
      have hr := hG.rowAt 999 (act_base 999 rfl) e0
      have c0 : u9.cell? ⟨pb, 287, none⟩ = some (.int .i64 (i : Int)) := hr.cell (hk287)
      clear hr e0
      go_simp
      exact hK _ α _ (fun _ _ => rfl) rfl (step_same (st9) hL hcl rfl rfl hG)
    · intro L9 α a9 u9 K9 hL hcl hA hG hS h0 h1 hK
      replace hL : L9 5 = false := hL
      have q27 : a9.tmps[27]? = some (.agg #[.string ⟨#[97, 98, 99, 100, 101, 102, 103, 104, 105, 106, 107, 108, 109, 110, 111, 112, 113, 114, 115, 116, 117, 118, 119, 120, 121, 122, 65, 66, 67, 68, 69, 70, 71, 72, 73, 74, 75, 76, 77, 78, 79, 80, 81, 82, 83, 84, 85, 86, 87, 88, 89, 90, 95, 36]⟩, .string ⟨#[97, 98, 99, 100, 101, 102, 103, 104, 105, 106, 107, 108, 109, 110, 111, 112, 113, 114, 115, 116, 117, 118, 119, 120, 121, 122, 65, 66, 67, 68, 69, 70, 71, 72, 73, 74, 75, 76, 77, 78, 79, 80, 81, 82, 83, 84, 85, 86, 87, 88, 89, 90, 48, 49, 50, 51, 52, 53, 54, 55, 56, 57, 95, 36]⟩]) := hS 0 27 (by decide) rfl (by show 27 < 88; decide)
      have s27 := Rega.eval_of q27
      have q31 : a9.tmps[31]? = some (.int .i64 (i : Int)) := hS 4 31 (by decide) rfl (by show 31 < 88; decide)
      have s31 := Rega.eval_of q31
      go_simp
      have hM : ∀ i, i ∈ [] → act r4R001Cnt 1 L9 i := by intro i hi; simp at hi
      have hP : Own w0 u9 [] _ := hG.pick [] (by decide) (by simp)
      clear hM
      refine Calls.mono (minNm i _ _ _ hP (by omega)) ?_
      rintro e9 u1 ⟨rfl, hQ⟩
      obtain ⟨α', hα'⟩ : ∃ α' : Rega.Atoms, α' = α := ⟨_, rfl⟩
      have hα : ∀ j, j % 1000 ≠ 5 → α' j = α j := fun j hj => by rw [hα']
      skip
      refine hK _ α' _ hα ?_ (step_call (st9) hL hcl hα [] [] (by decide) (by decide) (by decide) (M := _) ?_ hG hQ)
      · rfl
      · rfl
    · intro L9 α a9 u9 K9 hL hcl hA hG hS h0 h1 hK
      replace hL : L9 6 = false := hL
      have q32 : a9.tmps[32]? = some (.string (nmB i)) := hS 5 32 (by decide) rfl (by show 32 < 88; decide)
      have s32 := Rega.eval_of q32
      go_simp
      exact hK _ α _ (fun _ _ => rfl) rfl (step_same (st9) hL hcl rfl rfl hG)
    · intro L9 α a9 u9 K9 hL hcl hA hG hS h0 h1 hK
      replace hL : L9 7 = false := hL
      have q33 : a9.tmps[33]? = some (.string (⟨#[95]⟩ ++ (nmB i))) := hS 6 33 (by decide) rfl (by show 33 < 88; decide)
      have s33 := Rega.eval_of q33
      go_simp
      exact hK _ α _ (fun _ _ => rfl) rfl (step_same (st9) hL hcl rfl rfl hG)
  clear st9
  intro α u hG
  have e0 : r4R001R pb PC i (fun k => decide (k < 8)) α 999 = row (pb) 182 PC := rfl
  have hO : Own w0 u [row (pb) 182 PC] X9_3 := (hG.list [999] (by decide) (act_all (by decide))).conv (by
    show [r4R001R pb PC i (fun k => decide (k < 8)) α 999] = _
    rw [e0])
  clear hG e0
  generalize hfr : Rega.frameAt _ _ _ _ _ = fr
  have hdf : fr = ⟨#[.pointer (some ⟨pb, 0, none⟩), .int .u8 0, .string (⟨#[95]⟩ ++ (nmB i)), undef, undef, undef, .pointer (some ⟨B1, 0, none⟩), .pointer (some ⟨ms, 0, none⟩), undef, .pointer (some ⟨pb, 0, none⟩), .pointer (some ⟨pb, 0, none⟩), .pointer (some ⟨pb, 104, none⟩), .pointer (some ⟨ms, 0, none⟩), .int .u8 0, .bool true, .pointer (some ⟨ms, 0, none⟩), .pointer (some ⟨ms, 0, none⟩), .pointer (some ⟨ms, 15, none⟩), .int .u8 6, .bool true, .bool false, u21, u22, u23, u24, .string ⟨#[]⟩, .bool true, .agg #[.string ⟨#[97, 98, 99, 100, 101, 102, 103, 104, 105, 106, 107, 108, 109, 110, 111, 112, 113, 114, 115, 116, 117, 118, 119, 120, 121, 122, 65, 66, 67, 68, 69, 70, 71, 72, 73, 74, 75, 76, 77, 78, 79, 80, 81, 82, 83, 84, 85, 86, 87, 88, 89, 90, 95, 36]⟩, .string ⟨#[97, 98, 99, 100, 101, 102, 103, 104, 105, 106, 107, 108, 109, 110, 111, 112, 113, 114, 115, 116, 117, 118, 119, 120, 121, 122, 65, 66, 67, 68, 69, 70, 71, 72, 73, 74, 75, 76, 77, 78, 79, 80, 81, 82, 83, 84, 85, 86, 87, 88, 89, 90, 48, 49, 50, 51, 52, 53, 54, 55, 56, 57, 95, 36]⟩], .pointer (some ⟨pb, 0, none⟩), .pointer (some ⟨pb, 0, none⟩), .pointer (some ⟨pb, 287, none⟩), .int .i64 (i : Int), .string (nmB i), .string (⟨#[95]⟩ ++ (nmB i)), undef, undef, undef, undef, undef, undef, undef, undef, undef, undef, undef, undef, undef, undef, undef, undef, undef, undef, undef, undef, undef, undef, undef, undef, undef, undef, undef, undef, undef, undef, undef, undef, undef, undef, undef, undef, undef, undef, undef, undef, undef, undef, undef, undef, undef, undef, undef, undef, undef, undef, undef, undef, undef, undef], []⟩ := by rw [← hfr]; kernel_rfl
  clear hfr
  subst hdf
  clear α
  subst hX9_3
  have hN : Own w0 u [row (pb) 182 PC, row (B1) 58 #[.int .u32 0, .int .u32 0], row (sb) 201 (full symZ (symL st) c), row (ms) 194 MC] X := hO.back HL.out HX.out [0, 2, 3] (by decide) (by decide)
  clear hO HL HX
  have hO := hN
  clear hN
  obtain ⟨ix9, hix9, hax9, hjx9⟩ := hO.ix
  have ix9_0 : ix9 pb = 0 := hjx9 0 _ _ rfl
  have ix9_1 : ix9 B1 = 1 := hjx9 1 _ _ rfl
  have ix9_2 : ix9 sb = 2 := hjx9 2 _ _ rfl
  have ix9_3 : ix9 ms = 3 := hjx9 3 _ _ rfl
  clear hjx9
  have c9_0_32 : u.cell? ⟨pb, 32, none⟩ = some (.bool false) := hO.cell 0 rfl (32) (hk32)
  have c9_0_66 : u.cell? ⟨pb, 66, none⟩ = some (.int .u32 src) := hO.cell 0 rfl (66) (hk66)
  have c9_0_104 : u.cell? ⟨pb, 104, none⟩ = some (.pointer (some ⟨ms, 0, none⟩)) := hO.cell 0 rfl (104) (hk104)
  have c9_0_106 : u.cell? ⟨pb, 106, none⟩ = some (.slice (some ⟨sb, 0, none⟩) n (n + c)) := hO.cell 0 rfl (106) (hk106)
  have c9_0_199 : u.cell? ⟨pb, 199, none⟩ = some (.slice none 0 0) := hO.cell 0 rfl (199) (hk199)
  have c9_0_287 : u.cell? ⟨pb, 287, none⟩ = some (.int .i64 (i : Int)) := hO.cell 0 rfl (287) (hk287)
  have lt9_0 : pb < u.heap.size := hO.lt 0 rfl
  have y9_0 : ∀ o, u.frozen? ⟨pb, o, none⟩ = false := hO.free 0 rfl
  obtain ⟨c9_1_0, c9_1_1, lt9_1, y9_1, -⟩ := hO.k2 1 rfl
  have c9_3_5 : u.cell? ⟨ms, 5, none⟩ = some (.slice none 0 0) := hO.cell 3 rfl (5) (hgen)
  have c9_3_15 : u.cell? ⟨ms, 15, none⟩ = some (.int .u8 6) := hO.cell 3 rfl (15) (hkind)
  have lt9_3 : ms < u.heap.size := hO.lt 3 rfl
  have y9_3 : ∀ o, u.frozen? ⟨ms, o, none⟩ = false := hO.free 3 rfl
  have HO := Lib.hid hO
  clear hO
  go_wp2_with (first | (with_reducible refine Own.stay (fn := Tryz.f41) ?_) | (first | (go_at_call 52; go_in)))
  try with_reducible refine Own.Stay.mk ?_
  have hO := HO.out
  clear HO hix9 hax9 ix9_0 ix9_1 ix9_2 ix9_3 ix9 c9_0_32 c9_0_66 c9_0_104 c9_0_106 c9_0_199 c9_0_287 lt9_0 y9_0 c9_1_0 c9_1_1 lt9_1 y9_1 c9_3_5 c9_3_15 lt9_3 y9_3
  generalize hW : World.setCell _ _ _ = W5
  have hN : Own w0 W5 [row (pb) 182 (PC.setIfInBounds 287 (.int .i64 ((i : Int) + 1))), row (B1) 58 #[.int .u32 0, .int .u32 0], row (sb) 201 (full symZ (symL st) c), row (ms) 194 MC] X := by
    rw [← hW]
    exact (hO).set 0 rfl 287 _
  clear hW hO
  have hO := hN
  clear hN
  have hL := hO.apart
  have hX := hO.apartX
  have HL := Lib.hid hL
  have HX := Lib.hid hX
  clear hL hX
  have hP9 := hO.pick [0, 2] (by decide)
  have T9 := newSymG pb (PC.setIfInBounds 287 (.int .i64 ((i : Int) + 1))) sb c st n src 27 (tn i) _ _ _ hP9 (get_other hk66 (by omega) _) (get_other hk32 (by omega) _) (get_other hk106 (by omega) _) hn hnb hg0 hg1
  refine Calls.mono T9 ?_
  clear hP9 T9
  rintro e u6 ⟨nd7, nd8, rfl, hQ⟩
  have hN : Own w0 u6 [row (pb) 182 ((PC.setIfInBounds 287 (.int .i64 ((i : Int) + 1))).setIfInBounds 106 (.slice (some ⟨nd7, 0, none⟩) (n + 1) (n + 1 + nd8))), row (nd7) 201 (full symZ (symL (st ++ [syk (tn i) 27])) nd8), row (B1) 58 #[.int .u32 0, .int .u32 0], row (ms) 194 MC] X := hQ.back HL.out HX.out [1, 3] (by decide) (by decide)
  clear hQ HL HX hO
  have hO := hN
  clear hN
  obtain ⟨c9_2_0, c9_2_1, lt9_2, y9_2, -⟩ := hO.k2 2 rfl
  have HO := Lib.hid hO
  clear hO
  go_wp2_with (first | (with_reducible refine Own.stay (fn := Tryz.f41) ?_) | (first | (go_at_call 52; go_in)))
  try with_reducible refine Own.Stay.mk ?_
  have hO := HO.out
  clear HO c9_2_0 c9_2_1 lt9_2 y9_2
  generalize hW : World.alloc _ _ = W10
  have hN : Own w0 W10 [row (u6.heap.size) 58 #[.int .u32 src, .int .u32 (n : Int)], row (pb) 182 ((PC.setIfInBounds 287 (.int .i64 ((i : Int) + 1))).setIfInBounds 106 (.slice (some ⟨nd7, 0, none⟩) (n + 1) (n + 1 + nd8))), row (nd7) 201 (full symZ (symL (st ++ [syk (tn i) 27])) nd8), row (B1) 58 #[.int .u32 0, .int .u32 0], row (ms) 194 MC] X := by
    rw [← hW]
    exact (hO).alloc' _ (u6.heap.size) (by simp)
  clear hW hO
  generalize u6.heap.size = B9 at hN ⊢
  have hO := hN
  clear hN
  have hL := hO.apart
  have hX := hO.apartX
  have HL := Lib.hid hL
  have HX := Lib.hid hX
  clear hL hX
  have hP9 := hO.pick [0, 1] (by decide)
  generalize hX9_11 : Own.Rest _ _ X = X9_11 at hP9
  replace hP9 : Own w0 W10 [row (B9) 58 #[.int .u32 src, .int .u32 (n : Int)], row (pb) 182 ((PC.setIfInBounds 287 (.int .i64 ((i : Int) + 1))).setIfInBounds 106 (.slice (some ⟨nd7, 0, none⟩) (n + 1) (n + 1 + nd8)))] X9_11 := hP9
  clear hO
  have hO := hP9
  clear hP9
  have st9 := r4R003_st pb PC n src i nd7 nd8 B9
  let R9 := r4R003R pb PC n src i nd7 nd8 B9
  refine wp_region_own (e := r4R003E pb PC n src i nd7 nd8 B9) (anc := r4R003Anc) (G := (fun L9 α u9 => OwnF w0 u9 (act r4R003Cnt 2 L9) (r4R003R pb PC n src i nd7 nd8 B9 L9 α) X9_11)) (by kernel_rfl) (by kernel_rfl) (by kernel_rfl) (by kernel_rfl) (r4R003_he pb PC n src i nd7 nd8 B9) ?_ (RunsAll.all ?_) ?_
  · have hp : ∀ i, act r4R003Cnt 2 (fun _ => false) i → i ∈ [999, 1999] := by
      intro i hi
      have h9 : i % 1000 = 999 := by
        by_cases h : i % 1000 = 999
        · exact h
        · exact absurd (act_lt hi h) (by simp)
      unfold act at hi
      rw [if_pos h9] at hi
      simp only [List.mem_cons, List.not_mem_nil, or_false]
      omega
    refine hO.drew.family (fun i hi => ?_) (fun i j hi hj hij => ?_)
    · have := hp i hi
      simp only [List.mem_cons, List.not_mem_nil, or_false] at this
      rcases this with rfl | rfl <;> rfl
    · have h1 := hp i hi
      have h2 := hp j hj
      simp only [List.mem_cons, List.not_mem_nil, or_false] at h1 h2
      omega
  · refine ⟨?_, ?_, ?_, ?_, ?_, ?_, ?_, ?_, ?_, ?_, ?_, ?_, trivial⟩
    · intro L9 α a9 u9 K9 hL hcl hA hG hS h0 h1 hK
      replace hL : L9 0 = false := hL
      have q0 : a9.tmps[0]? = some (.pointer (some ⟨pb, 0, none⟩)) := (h0 0 (by kernel_rfl)).trans rfl
      have s0 := Rega.eval_of q0
      go_simp
      exact hK _ α _ (fun _ _ => rfl) rfl (step_same (st9) hL hcl rfl rfl hG)
    · intro L9 α a9 u9 K9 hL hcl hA hG hS h0 h1 hK
      replace hL : L9 1 = false := hL
      have q0 : a9.tmps[0]? = some (.pointer (some ⟨pb, 0, none⟩)) := (h0 0 (by kernel_rfl)).trans rfl
      have s0 := Rega.eval_of q0
      go_simp
      exact hK _ α _ (fun _ _ => rfl) rfl (step_same (st9) hL hcl rfl rfl hG)
    · intro L9 α a9 u9 K9 hL hcl hA hG hS h0 h1 hK
      replace hL : L9 2 = false := hL
      have q67 : a9.tmps[67]? = some (.pointer (some ⟨pb, 0, none⟩)) := hS 1 67 (by decide) rfl (by show 67 < 88; decide)
      have s67 := Rega.eval_of q67
      go_simp
      exact hK _ α _ (fun _ _ => rfl) rfl (step_same (st9) hL hcl rfl rfl hG)
    · intro L9 α a9 u9 K9 hL hcl hA hG hS h0 h1 hK
      replace hL : L9 3 = false := hL
      have q68 : a9.tmps[68]? = some (.pointer (some ⟨pb, 0, none⟩)) := hS 2 68 (by decide) rfl (by show 68 < 88; decide)
      have s68 := Rega.eval_of q68
      go_simp
      exact hK _ α _ (fun _ _ => rfl) rfl (step_same (st9) hL hcl rfl rfl hG)
    · intro L9 α a9 u9 K9 hL hcl hA hG hS h0 h1 hK
      replace hL : L9 4 = false := hL
      have q69 : a9.tmps[69]? = some (.pointer (some ⟨pb, 199, none⟩)) := hS 3 69 (by decide) rfl (by show 69 < 88; decide)
      have s69 := Rega.eval_of q69
      have e0 : R9 L9 α 1999 = row (pb) 182 ((PC.setIfInBounds 287 (.int .i64 ((i : Int) + 1))).setIfInBounds 106 (.slice (some ⟨nd7, 0, none⟩) (n + 1) (n + 1 + nd8))) := by
        show r4R003T1999 pb PC n src i nd7 nd8 B9 L9 α = _
        unfold r4R003T1999
        rw [if_neg (fun e => by have := hcl 11 e 4 (by decide); rw [hL] at this; cases this)]
      have hr := hG.rowAt 1999 (act_base 1999 rfl) e0
      have c0 : u9.cell? ⟨pb, 199, none⟩ = some (.slice none 0 0) := hr.cell ((get_other (get_other hk199 (by omega) _) (by omega) _))
      clear hr e0
      go_simp
      exact hK _ α _ (fun _ _ => rfl) rfl (step_same (st9) hL hcl rfl rfl hG)
    · intro L9 α a9 u9 K9 hL hcl hA hG hS h0 h1 hK
      replace hL : L9 5 = false := hL
      have q8 : a9.tmps[8]? = some (.pointer (some ⟨B9, 0, none⟩)) := (h0 8 (by kernel_rfl)).trans rfl
      have s8 := Rega.eval_of q8
      have e0 : R9 L9 α 999 = row (B9) 58 #[.int .u32 src, .int .u32 (n : Int)] := rfl
      have hr := hG.rowAt 999 (act_base 999 rfl) e0
      have c0 : u9.cell? ⟨B9, 0, none⟩ = some (.int .u32 src) := hr.cell rfl
      have c1 : u9.cell? ⟨B9, 1, none⟩ = some (.int .u32 (n : Int)) := hr.cell rfl
      clear hr e0
      go_simp
      exact hK _ α _ (fun _ _ => rfl) rfl (step_same (st9) hL hcl rfl rfl hG)
    · intro L9 α a9 u9 K9 hL hcl hA hG hS h0 h1 hK
      replace hL : L9 6 = false := hL
      have q71 : a9.tmps[71]? = some (.agg #[.int .u32 src, .int .u32 (n : Int)]) := hS 5 71 (by decide) rfl (by show 71 < 88; decide)
      have s71 := Rega.eval_of q71
      go_simp
      exact hK _ α _ (fun _ _ => rfl) rfl (step_same (st9) hL hcl rfl rfl hG)
    · intro L9 α a9 u9 K9 hL hcl hA hG hS h0 h1 hK
      replace hL : L9 7 = false := hL
      have q72 : a9.tmps[72]? = some (.agg #[.nilIface, .int .i32 0, .int .u32 src, .int .u32 (n : Int)]) := hS 6 72 (by decide) rfl (by show 72 < 88; decide)
      have s72 := Rega.eval_of q72
      go_simp
      exact hK _ (fun j => if j = 7 then u9.heap.size else α j) _ (fun j hj => if_neg (fun e => hj (by rw [e]))) rfl (step_alloc (st9) hL hcl rfl rfl (by decide) _ rfl hG)
    · intro L9 α a9 u9 K9 hL hcl hA hG hS h0 h1 hK
      replace hL : L9 8 = false := hL
      have q70 : a9.tmps[70]? = some (.slice none 0 0) := hS 4 70 (by decide) rfl (by show 70 < 88; decide)
      have s70 := Rega.eval_of q70
      have q73 : a9.tmps[73]? = some (.slice (some ⟨α 7, 0, none⟩) 1 1) := hS 7 73 (by decide) rfl (by show 73 < 88; decide)
      have s73 := Rega.eval_of q73
      simp only [Region.wanted, if_true]
      have e0 : R9 L9 α 7 = row (α 7) 295 #[.nilIface, .int .i32 0, .int .u32 src, .int .u32 (n : Int)] := rfl
      have hM : ∀ i, i ∈ [7] → act r4R003Cnt 2 L9 i := by
        intro i hi
        simp only [List.mem_cons, List.not_mem_nil, or_false] at hi
        subst hi
        exact act_new 7 rfl (hA 7 (by decide))
      have hP : Own w0 u9 [row (α 7) 295 #[.nilIface, .int .i32 0, .int .u32 src, .int .u32 (n : Int)]] _ := (hG.pick [7] (by decide) hM).conv (by
        show [R9 L9 α 7] = _
        rw [e0])
      clear e0 hM
      obtain ⟨i9, hi9, z1, z2, z3⟩ := info_parts infoTrf
      refine wp_append_full_nil (Operand.tmp 70) (Operand.tmp 73) 166 rfl 295 i9 (.agg trfZ) 4 32 Tryz.underlying166 hi9 z1 z2 z3 hP s70 s73 rfl (by decide) (by first | decide | omega | (unfold maxLen; omega)) (by first | decide | omega | (unfold maxLen; omega)) ?_
      intro b0 b1 u1 hQ
      obtain ⟨α', hα'⟩ : ∃ α' : Rega.Atoms, α' = (fun j => if j = 8 then b0 else if j = 1008 then b1 else α j) := ⟨_, rfl⟩
      have f0 : R9 (Rega.ran L9 8) α' 8 = row (α' 8) 295 (full trfZ [.nilIface, .int .i32 0, .int .u32 src, .int .u32 (n : Int)] (α' 1008)) := rfl
      have f1 : R9 (Rega.ran L9 8) α' 7 = row (α' 7) 295 #[.nilIface, .int .i32 0, .int .u32 src, .int .u32 (n : Int)] := rfl
      have hα : ∀ j, j % 1000 ≠ 8 → α' j = α j := fun j hj => by rw [hα']; simp only []; rw [if_neg (by omega), if_neg (by omega)]
      have hb0 : α' 8 = b0 := by rw [hα']; rfl
      have hb1 : α' 1008 = b1 := by rw [hα']; rfl
      have ha7 : α' 7 = α 7 := hα 7 (by decide)
      refine hK _ α' _ hα ?_ (step_call (st9) hL hcl hα [7] [8, 7] (by decide) (by decide) (by decide) (M := _) ?_ hG hQ)
      · show _ = (.slice (some ⟨α' 8, 0, none⟩) 1 (1 + α' 1008) : Value)
        simp only [hb0, hb1]
      · show [R9 (Rega.ran L9 8) α' 8, R9 (Rega.ran L9 8) α' 7] = _
        rw [f0, f1]
        simp only [hb0, hb1, ha7]
        try rfl
    · intro L9 α a9 u9 K9 hL hcl hA hG hS h0 h1 hK
      replace hL : L9 9 = false := hL
      have q66 : a9.tmps[66]? = some (.pointer (some ⟨pb, 0, none⟩)) := hS 0 66 (by decide) rfl (by show 66 < 88; decide)
      have s66 := Rega.eval_of q66
      go_simp
      exact hK _ α _ (fun _ _ => rfl) rfl (step_same (st9) hL hcl rfl rfl hG)
    · intro L9 α a9 u9 K9 hL hcl hA hG hS h0 h1 hK
      replace hL : L9 10 = false := hL
      have q75 : a9.tmps[75]? = some (.pointer (some ⟨pb, 0, none⟩)) := hS 9 75 (by decide) rfl (by show 75 < 88; decide)
      have s75 := Rega.eval_of q75
      go_simp
      exact hK _ α _ (fun _ _ => rfl) rfl (step_same (st9) hL hcl rfl rfl hG)
    · intro L9 α a9 u9 K9 hL hcl hA hG hS h0 h1 hK
      replace hL : L9 11 = false := hL
      have q76 : a9.tmps[76]? = some (.pointer (some ⟨pb, 199, none⟩)) := hS 10 76 (by decide) rfl (by show 76 < 88; decide)
      have s76 := Rega.eval_of q76
      have q74 : a9.tmps[74]? = some (.slice (some ⟨α 8, 0, none⟩) 1 (1 + α 1008)) := hS 8 74 (by decide) rfl (by show 74 < 88; decide)
      have s74 := Rega.eval_of q74
      have e0 : R9 L9 α 1999 = row (pb) 182 ((PC.setIfInBounds 287 (.int .i64 ((i : Int) + 1))).setIfInBounds 106 (.slice (some ⟨nd7, 0, none⟩) (n + 1) (n + 1 + nd8))) := by
        show r4R003T1999 pb PC n src i nd7 nd8 B9 L9 α = _
        unfold r4R003T1999
        rw [if_neg (by rw [hL]; decide)]
      have hr := hG.rowAt 1999 (act_base 1999 rfl) e0
      have c0 : u9.cell? ⟨pb, 199, none⟩ = some (.slice none 0 0) := hr.cell ((get_other (get_other hk199 (by omega) _) (by omega) _))
      have y0 : u9.frozen? ⟨pb, 199, none⟩ = false := hr.free (199)
      clear hr
      have E0 := Lib.hid e0
      clear e0
      go_simp
      have e1 : R9 (Rega.ran L9 11) α 1999 = row (pb) 182 (((PC.setIfInBounds 287 (.int .i64 ((i : Int) + 1))).setIfInBounds 106 (.slice (some ⟨nd7, 0, none⟩) (n + 1) (n + 1 + nd8))).setIfInBounds 199 (.slice (some ⟨α 8, 0, none⟩) 1 (1 + α 1008))) := by
        show r4R003T1999 pb PC n src i nd7 nd8 B9 (Rega.ran L9 11) α = _
        unfold r4R003T1999
        rw [if_pos (show Rega.ran L9 11 11 = true from rfl)]
      exact hK _ α _ (fun _ _ => rfl) rfl (step_sets (st9) hL hcl rfl 1999 rfl (act_base 1999 rfl) E0.out (199) [.slice (some ⟨α 8, 0, none⟩) 1 (1 + α 1008)] (e1.trans rfl) hG)
  clear st9
  intro α u hG
  have e0 : R9 (fun k => decide (k < 12)) α 999 = row (B9) 58 #[.int .u32 src, .int .u32 (n : Int)] := rfl
  have e1 : R9 (fun k => decide (k < 12)) α 1999 = row (pb) 182 (((PC.setIfInBounds 287 (.int .i64 ((i : Int) + 1))).setIfInBounds 106 (.slice (some ⟨nd7, 0, none⟩) (n + 1) (n + 1 + nd8))).setIfInBounds 199 (.slice (some ⟨α 8, 0, none⟩) 1 (1 + α 1008))) := by
    show r4R003T1999 pb PC n src i nd7 nd8 B9 (fun k => decide (k < 12)) α = _
    unfold r4R003T1999
    rw [if_pos (by decide)]
  have e2 : R9 (fun k => decide (k < 12)) α 7 = row (α 7) 295 #[.nilIface, .int .i32 0, .int .u32 src, .int .u32 (n : Int)] := rfl
  have e3 : R9 (fun k => decide (k < 12)) α 8 = row (α 8) 295 (full trfZ [.nilIface, .int .i32 0, .int .u32 src, .int .u32 (n : Int)] (α 1008)) := rfl
  have hO : Own w0 u [row (B9) 58 #[.int .u32 src, .int .u32 (n : Int)], row (pb) 182 (((PC.setIfInBounds 287 (.int .i64 ((i : Int) + 1))).setIfInBounds 106 (.slice (some ⟨nd7, 0, none⟩) (n + 1) (n + 1 + nd8))).setIfInBounds 199 (.slice (some ⟨α 8, 0, none⟩) 1 (1 + α 1008))), row (α 7) 295 #[.nilIface, .int .i32 0, .int .u32 src, .int .u32 (n : Int)], row (α 8) 295 (full trfZ [.nilIface, .int .i32 0, .int .u32 src, .int .u32 (n : Int)] (α 1008))] X9_11 := (hG.list [999, 1999, 7, 8] (by decide) (act_all (by decide))).conv (by
    show [R9 (fun k => decide (k < 12)) α 999, R9 (fun k => decide (k < 12)) α 1999, R9 (fun k => decide (k < 12)) α 7, R9 (fun k => decide (k < 12)) α 8] = _
    rw [e0, e1, e2, e3])
  clear hG e0 e1 e2 e3 R9
  generalize hfr : Rega.frameAt _ _ _ _ _ = fr
  have hdf : fr = ⟨#[.pointer (some ⟨pb, 0, none⟩), .int .u8 0, .string (tn i), undef, undef, undef, .pointer (some ⟨B1, 0, none⟩), .pointer (some ⟨ms, 0, none⟩), .pointer (some ⟨B9, 0, none⟩), .pointer (some ⟨pb, 0, none⟩), .pointer (some ⟨pb, 0, none⟩), .pointer (some ⟨pb, 104, none⟩), .pointer (some ⟨ms, 0, none⟩), .int .u8 0, .bool true, .pointer (some ⟨ms, 0, none⟩), .pointer (some ⟨ms, 0, none⟩), .pointer (some ⟨ms, 15, none⟩), .int .u8 6, .bool true, .bool false, u21, u22, u23, u24, .string ⟨#[]⟩, .bool true, .agg #[.string ⟨#[97, 98, 99, 100, 101, 102, 103, 104, 105, 106, 107, 108, 109, 110, 111, 112, 113, 114, 115, 116, 117, 118, 119, 120, 121, 122, 65, 66, 67, 68, 69, 70, 71, 72, 73, 74, 75, 76, 77, 78, 79, 80, 81, 82, 83, 84, 85, 86, 87, 88, 89, 90, 95, 36]⟩, .string ⟨#[97, 98, 99, 100, 101, 102, 103, 104, 105, 106, 107, 108, 109, 110, 111, 112, 113, 114, 115, 116, 117, 118, 119, 120, 121, 122, 65, 66, 67, 68, 69, 70, 71, 72, 73, 74, 75, 76, 77, 78, 79, 80, 81, 82, 83, 84, 85, 86, 87, 88, 89, 90, 48, 49, 50, 51, 52, 53, 54, 55, 56, 57, 95, 36]⟩], .pointer (some ⟨pb, 0, none⟩), .pointer (some ⟨pb, 0, none⟩), .pointer (some ⟨pb, 287, none⟩), .int .i64 (i : Int), .string (nmB i), .string (tn i), .pointer (some ⟨pb, 0, none⟩), .pointer (some ⟨pb, 0, none⟩), .pointer (some ⟨pb, 287, none⟩), .int .i64 (i : Int), .int .i64 ((i : Int) + 1), .pointer (some ⟨pb, 0, none⟩), .pointer (some ⟨pb, 287, none⟩), .pointer (some ⟨pb, 0, none⟩), .string (tn i), .agg #[.int .u32 src, .int .u32 (n : Int)], .int .u8 0, .bool false, .bool false, undef, undef, undef, undef, undef, undef, .bool false, undef, undef, undef, undef, undef, undef, undef, undef, undef, undef, .int .u8 0, .bool true, .pointer (some ⟨pb, 0, none⟩), .pointer (some ⟨pb, 0, none⟩), .pointer (some ⟨pb, 0, none⟩), .pointer (some ⟨pb, 199, none⟩), .slice none 0 0, .agg #[.int .u32 src, .int .u32 (n : Int)], .agg #[.nilIface, .int .i32 0, .int .u32 src, .int .u32 (n : Int)], .slice (some ⟨α 7, 0, none⟩) 1 1, .slice (some ⟨α 8, 0, none⟩) 1 (1 + α 1008), .pointer (some ⟨pb, 0, none⟩), .pointer (some ⟨pb, 199, none⟩), undef, undef, undef, undef, undef, undef, undef, undef, undef, undef, undef], []⟩ := by rw [← hfr]; kernel_rfl
  clear hfr
  subst hdf
  generalize α 7 = nd12 at hO ⊢
  generalize α 8 = nd13 at hO ⊢
  generalize α 1008 = nd14 at hO ⊢
  clear α
  subst hX9_11
  have hN : Own w0 u [row (B9) 58 #[.int .u32 src, .int .u32 (n : Int)], row (pb) 182 (((PC.setIfInBounds 287 (.int .i64 ((i : Int) + 1))).setIfInBounds 106 (.slice (some ⟨nd7, 0, none⟩) (n + 1) (n + 1 + nd8))).setIfInBounds 199 (.slice (some ⟨nd13, 0, none⟩) 1 (1 + nd14))), row (nd12) 295 #[.nilIface, .int .i32 0, .int .u32 src, .int .u32 (n : Int)], row (nd13) 295 (full trfZ [.nilIface, .int .i32 0, .int .u32 src, .int .u32 (n : Int)] (nd14)), row (nd7) 201 (full symZ (symL (st ++ [syk (tn i) 27])) nd8), row (B1) 58 #[.int .u32 0, .int .u32 0], row (ms) 194 MC] X := hO.back HL.out HX.out [2, 3, 4] (by decide) (by decide)
  clear hO HL HX
  have hO := hN
  clear hN
  obtain ⟨c9_0_0, c9_0_1, lt9_0, y9_0, -⟩ := hO.k2 0 rfl
  obtain ⟨c9_2_0, c9_2_1, c9_2_2, c9_2_3, lt9_2, y9_2, -⟩ := hO.k4 2 rfl
  obtain ⟨c9_5_0, c9_5_1, lt9_5, y9_5, -⟩ := hO.k2 5 rfl
  have HO := Lib.hid hO
  clear hO
  go_wp2_with (first | (with_reducible refine Own.stay (fn := Tryz.f41) ?_) | (first | (go_at_call 52; go_in)))
  try with_reducible refine Own.Stay.mk ?_
  have hO := HO.out
  clear HO c9_0_0 c9_0_1 lt9_0 y9_0 c9_2_0 c9_2_1 c9_2_2 c9_2_3 lt9_2 y9_2 c9_5_0 c9_5_1 lt9_5 y9_5
  have hL := hO.apart
  have hX := hO.apartX
  have HL := Lib.hid hL
  have HX := Lib.hid hX
  clear hL hX
  have hP9 := hO.pick [0, 6] (by decide)
  generalize hX9_15 : Own.Rest _ _ X = X9_15 at hP9
  replace hP9 : Own w0 u [row (B9) 58 #[.int .u32 src, .int .u32 (n : Int)], row (ms) 194 MC] X9_15 := hP9
  clear hO
  have hO := hP9
  clear hP9
  have st9 := r4R004_st n src ms MC B9
  let R9 := r4R004R n src ms MC B9
  refine wp_region_own (e := r4R004E n src ms MC B9) (anc := r4R004Anc) (G := (fun L9 α u9 => OwnF w0 u9 (act r4R004Cnt 2 L9) (r4R004R n src ms MC B9 L9 α) X9_15)) (by kernel_rfl) (by kernel_rfl) (by kernel_rfl) (by kernel_rfl) (r4R004_he n src ms MC B9) ?_ (RunsAll.all ?_) ?_
  · have hp : ∀ i, act r4R004Cnt 2 (fun _ => false) i → i ∈ [999, 1999] := by
      intro i hi
      have h9 : i % 1000 = 999 := by
        by_cases h : i % 1000 = 999
        · exact h
        · exact absurd (act_lt hi h) (by simp)
      unfold act at hi
      rw [if_pos h9] at hi
      simp only [List.mem_cons, List.not_mem_nil, or_false]
      omega
    refine hO.drew.family (fun i hi => ?_) (fun i j hi hj hij => ?_)
    · have := hp i hi
      simp only [List.mem_cons, List.not_mem_nil, or_false] at this
      rcases this with rfl | rfl <;> rfl
    · have h1 := hp i hi
      have h2 := hp j hj
      simp only [List.mem_cons, List.not_mem_nil, or_false] at h1 h2
      omega
  · refine ⟨?_, ?_, ?_, ?_, ?_, ?_, ?_, ?_, ?_, ?_, ?_, trivial⟩
    · intro L9 α a9 u9 K9 hL hcl hA hG hS h0 h1 hK
      replace hL : L9 0 = false := hL
      have q7 : a9.tmps[7]? = some (.pointer (some ⟨ms, 0, none⟩)) := (h0 7 (by kernel_rfl)).trans rfl
      have s7 := Rega.eval_of q7
      go_simp
      exact hK _ α _ (fun _ _ => rfl) rfl (step_same (st9) hL hcl rfl rfl hG)
    · intro L9 α a9 u9 K9 hL hcl hA hG hS h0 h1 hK
      replace hL : L9 1 = false := hL
      have q7 : a9.tmps[7]? = some (.pointer (some ⟨ms, 0, none⟩)) := (h0 7 (by kernel_rfl)).trans rfl
      have s7 := Rega.eval_of q7
      go_simp
      exact hK _ α _ (fun _ _ => rfl) rfl (step_same (st9) hL hcl rfl rfl hG)
    · intro L9 α a9 u9 K9 hL hcl hA hG hS h0 h1 hK
      replace hL : L9 2 = false := hL
      have q78 : a9.tmps[78]? = some (.pointer (some ⟨ms, 0, none⟩)) := hS 1 78 (by decide) rfl (by show 78 < 88; decide)
      have s78 := Rega.eval_of q78
      go_simp
      exact hK _ α _ (fun _ _ => rfl) rfl (step_same (st9) hL hcl rfl rfl hG)
    · intro L9 α a9 u9 K9 hL hcl hA hG hS h0 h1 hK
      replace hL : L9 3 = false := hL
      have q79 : a9.tmps[79]? = some (.pointer (some ⟨ms, 0, none⟩)) := hS 2 79 (by decide) rfl (by show 79 < 88; decide)
      have s79 := Rega.eval_of q79
      go_simp
      exact hK _ α _ (fun _ _ => rfl) rfl (step_same (st9) hL hcl rfl rfl hG)
    · intro L9 α a9 u9 K9 hL hcl hA hG hS h0 h1 hK
      replace hL : L9 4 = false := hL
      have q80 : a9.tmps[80]? = some (.pointer (some ⟨ms, 5, none⟩)) := hS 3 80 (by decide) rfl (by show 80 < 88; decide)
      have s80 := Rega.eval_of q80
      have e0 : R9 L9 α 1999 = row (ms) 194 MC := by
        show r4R004T1999 n src ms MC B9 L9 α = _
        unfold r4R004T1999
        rw [if_neg (fun e => by have := hcl 10 e 4 (by decide); rw [hL] at this; cases this)]
      have hr := hG.rowAt 1999 (act_base 1999 rfl) e0
      have c0 : u9.cell? ⟨ms, 5, none⟩ = some (.slice none 0 0) := hr.cell (hgen)
      clear hr e0
      go_simp
      exact hK _ α _ (fun _ _ => rfl) rfl (step_same (st9) hL hcl rfl rfl hG)
    · intro L9 α a9 u9 K9 hL hcl hA hG hS h0 h1 hK
      replace hL : L9 5 = false := hL
      have q8 : a9.tmps[8]? = some (.pointer (some ⟨B9, 0, none⟩)) := (h0 8 (by kernel_rfl)).trans rfl
      have s8 := Rega.eval_of q8
      have e0 : R9 L9 α 999 = row (B9) 58 #[.int .u32 src, .int .u32 (n : Int)] := rfl
      have hr := hG.rowAt 999 (act_base 999 rfl) e0
      have c0 : u9.cell? ⟨B9, 0, none⟩ = some (.int .u32 src) := hr.cell rfl
      have c1 : u9.cell? ⟨B9, 1, none⟩ = some (.int .u32 (n : Int)) := hr.cell rfl
      clear hr e0
      go_simp
      exact hK _ α _ (fun _ _ => rfl) rfl (step_same (st9) hL hcl rfl rfl hG)
    · intro L9 α a9 u9 K9 hL hcl hA hG hS h0 h1 hK
      replace hL : L9 6 = false := hL
      have q82 : a9.tmps[82]? = some (.agg #[.int .u32 src, .int .u32 (n : Int)]) := hS 5 82 (by decide) rfl (by show 82 < 88; decide)
      have s82 := Rega.eval_of q82
      go_simp
      exact hK _ (fun j => if j = 6 then u9.heap.size else α j) _ (fun j hj => if_neg (fun e => hj (by rw [e]))) rfl (step_alloc (st9) hL hcl rfl rfl (by decide) _ rfl hG)
    · intro L9 α a9 u9 K9 hL hcl hA hG hS h0 h1 hK
      replace hL : L9 7 = false := hL
      have q81 : a9.tmps[81]? = some (.slice none 0 0) := hS 4 81 (by decide) rfl (by show 81 < 88; decide)
      have s81 := Rega.eval_of q81
      have q83 : a9.tmps[83]? = some (.slice (some ⟨α 6, 0, none⟩) 1 1) := hS 6 83 (by decide) rfl (by show 83 < 88; decide)
      have s83 := Rega.eval_of q83
      simp only [Region.wanted, if_true]
      have e0 : R9 L9 α 6 = row (α 6) 58 #[.int .u32 src, .int .u32 (n : Int)] := rfl
      have hM : ∀ i, i ∈ [6] → act r4R004Cnt 2 L9 i := by
        intro i hi
        simp only [List.mem_cons, List.not_mem_nil, or_false] at hi
        subst hi
        exact act_new 6 rfl (hA 6 (by decide))
      have hP : Own w0 u9 [row (α 6) 58 #[.int .u32 src, .int .u32 (n : Int)]] _ := (hG.pick [6] (by decide) hM).conv (by
        show [R9 L9 α 6] = _
        rw [e0])
      clear e0 hM
      obtain ⟨i9, hi9, z1, z2, z3⟩ := info_parts infoRef
      refine wp_append_full_nil (Operand.tmp 81) (Operand.tmp 83) 130 rfl 58 i9 (.agg refZ) 2 8 Tryz.underlying130 hi9 z1 z2 z3 hP s81 s83 rfl (by decide) (by first | decide | omega | (unfold maxLen; omega)) (by first | decide | omega | (unfold maxLen; omega)) ?_
      intro b0 b1 u1 hQ
      obtain ⟨α', hα'⟩ : ∃ α' : Rega.Atoms, α' = (fun j => if j = 7 then b0 else if j = 1007 then b1 else α j) := ⟨_, rfl⟩
      have f0 : R9 (Rega.ran L9 7) α' 7 = row (α' 7) 58 (full refZ [.int .u32 src, .int .u32 (n : Int)] (α' 1007)) := rfl
      have f1 : R9 (Rega.ran L9 7) α' 6 = row (α' 6) 58 #[.int .u32 src, .int .u32 (n : Int)] := rfl
      have hα : ∀ j, j % 1000 ≠ 7 → α' j = α j := fun j hj => by rw [hα']; simp only []; rw [if_neg (by omega), if_neg (by omega)]
      have hb0 : α' 7 = b0 := by rw [hα']; rfl
      have hb1 : α' 1007 = b1 := by rw [hα']; rfl
      have ha6 : α' 6 = α 6 := hα 6 (by decide)
      refine hK _ α' _ hα ?_ (step_call (st9) hL hcl hα [6] [7, 6] (by decide) (by decide) (by decide) (M := _) ?_ hG hQ)
      · show _ = (.slice (some ⟨α' 7, 0, none⟩) 1 (1 + α' 1007) : Value)
        simp only [hb0, hb1]
      · show [R9 (Rega.ran L9 7) α' 7, R9 (Rega.ran L9 7) α' 6] = _
        rw [f0, f1]
        simp only [hb0, hb1, ha6]
        try rfl
    · intro L9 α a9 u9 K9 hL hcl hA hG hS h0 h1 hK
      replace hL : L9 8 = false := hL
      have q77 : a9.tmps[77]? = some (.pointer (some ⟨ms, 0, none⟩)) := hS 0 77 (by decide) rfl (by show 77 < 88; decide)
      have s77 := Rega.eval_of q77
      go_simp
      exact hK _ α _ (fun _ _ => rfl) rfl (step_same (st9) hL hcl rfl rfl hG)
    · intro L9 α a9 u9 K9 hL hcl hA hG hS h0 h1 hK
      replace hL : L9 9 = false := hL
      have q85 : a9.tmps[85]? = some (.pointer (some ⟨ms, 0, none⟩)) := hS 8 85 (by decide) rfl (by show 85 < 88; decide)
      have s85 := Rega.eval_of q85
      go_simp
      exact hK _ α _ (fun _ _ => rfl) rfl (step_same (st9) hL hcl rfl rfl hG)
    · intro L9 α a9 u9 K9 hL hcl hA hG hS h0 h1 hK
      replace hL : L9 10 = false := hL
      have q86 : a9.tmps[86]? = some (.pointer (some ⟨ms, 5, none⟩)) := hS 9 86 (by decide) rfl (by show 86 < 88; decide)
      have s86 := Rega.eval_of q86
      have q84 : a9.tmps[84]? = some (.slice (some ⟨α 7, 0, none⟩) 1 (1 + α 1007)) := hS 7 84 (by decide) rfl (by show 84 < 88; decide)
      have s84 := Rega.eval_of q84
      have e0 : R9 L9 α 1999 = row (ms) 194 MC := by
        show r4R004T1999 n src ms MC B9 L9 α = _
        unfold r4R004T1999
        rw [if_neg (by rw [hL]; decide)]
      have hr := hG.rowAt 1999 (act_base 1999 rfl) e0
      have c0 : u9.cell? ⟨ms, 5, none⟩ = some (.slice none 0 0) := hr.cell (hgen)
      have y0 : u9.frozen? ⟨ms, 5, none⟩ = false := hr.free (5)
      clear hr
      have E0 := Lib.hid e0
      clear e0
      go_simp
      have e1 : R9 (Rega.ran L9 10) α 1999 = row (ms) 194 (MC.setIfInBounds 5 (.slice (some ⟨α 7, 0, none⟩) 1 (1 + α 1007))) := by
        show r4R004T1999 n src ms MC B9 (Rega.ran L9 10) α = _
        unfold r4R004T1999
        rw [if_pos (show Rega.ran L9 10 10 = true from rfl)]
      exact hK _ α _ (fun _ _ => rfl) rfl (step_sets (st9) hL hcl rfl 1999 rfl (act_base 1999 rfl) E0.out (5) [.slice (some ⟨α 7, 0, none⟩) 1 (1 + α 1007)] (e1.trans rfl) hG)
  clear st9
  intro α u hG
  have e0 : R9 (fun k => decide (k < 11)) α 999 = row (B9) 58 #[.int .u32 src, .int .u32 (n : Int)] := rfl
  have e1 : R9 (fun k => decide (k < 11)) α 1999 = row (ms) 194 (MC.setIfInBounds 5 (.slice (some ⟨α 7, 0, none⟩) 1 (1 + α 1007))) := by
    show r4R004T1999 n src ms MC B9 (fun k => decide (k < 11)) α = _
    unfold r4R004T1999
    rw [if_pos (by decide)]
  have e2 : R9 (fun k => decide (k < 11)) α 6 = row (α 6) 58 #[.int .u32 src, .int .u32 (n : Int)] := rfl
  have e3 : R9 (fun k => decide (k < 11)) α 7 = row (α 7) 58 (full refZ [.int .u32 src, .int .u32 (n : Int)] (α 1007)) := rfl
  have hO : Own w0 u [row (B9) 58 #[.int .u32 src, .int .u32 (n : Int)], row (ms) 194 (MC.setIfInBounds 5 (.slice (some ⟨α 7, 0, none⟩) 1 (1 + α 1007))), row (α 6) 58 #[.int .u32 src, .int .u32 (n : Int)], row (α 7) 58 (full refZ [.int .u32 src, .int .u32 (n : Int)] (α 1007))] X9_15 := (hG.list [999, 1999, 6, 7] (by decide) (act_all (by decide))).conv (by
    show [R9 (fun k => decide (k < 11)) α 999, R9 (fun k => decide (k < 11)) α 1999, R9 (fun k => decide (k < 11)) α 6, R9 (fun k => decide (k < 11)) α 7] = _
    rw [e0, e1, e2, e3])
  clear hG e0 e1 e2 e3 R9
  generalize hfr : Rega.frameAt _ _ _ _ _ = fr
  have hdf : fr = ⟨#[.pointer (some ⟨pb, 0, none⟩), .int .u8 0, .string (tn i), undef, undef, undef, .pointer (some ⟨B1, 0, none⟩), .pointer (some ⟨ms, 0, none⟩), .pointer (some ⟨B9, 0, none⟩), .pointer (some ⟨pb, 0, none⟩), .pointer (some ⟨pb, 0, none⟩), .pointer (some ⟨pb, 104, none⟩), .pointer (some ⟨ms, 0, none⟩), .int .u8 0, .bool true, .pointer (some ⟨ms, 0, none⟩), .pointer (some ⟨ms, 0, none⟩), .pointer (some ⟨ms, 15, none⟩), .int .u8 6, .bool true, .bool false, u21, u22, u23, u24, .string ⟨#[]⟩, .bool true, .agg #[.string ⟨#[97, 98, 99, 100, 101, 102, 103, 104, 105, 106, 107, 108, 109, 110, 111, 112, 113, 114, 115, 116, 117, 118, 119, 120, 121, 122, 65, 66, 67, 68, 69, 70, 71, 72, 73, 74, 75, 76, 77, 78, 79, 80, 81, 82, 83, 84, 85, 86, 87, 88, 89, 90, 95, 36]⟩, .string ⟨#[97, 98, 99, 100, 101, 102, 103, 104, 105, 106, 107, 108, 109, 110, 111, 112, 113, 114, 115, 116, 117, 118, 119, 120, 121, 122, 65, 66, 67, 68, 69, 70, 71, 72, 73, 74, 75, 76, 77, 78, 79, 80, 81, 82, 83, 84, 85, 86, 87, 88, 89, 90, 48, 49, 50, 51, 52, 53, 54, 55, 56, 57, 95, 36]⟩], .pointer (some ⟨pb, 0, none⟩), .pointer (some ⟨pb, 0, none⟩), .pointer (some ⟨pb, 287, none⟩), .int .i64 (i : Int), .string (nmB i), .string (tn i), .pointer (some ⟨pb, 0, none⟩), .pointer (some ⟨pb, 0, none⟩), .pointer (some ⟨pb, 287, none⟩), .int .i64 (i : Int), .int .i64 ((i : Int) + 1), .pointer (some ⟨pb, 0, none⟩), .pointer (some ⟨pb, 287, none⟩), .pointer (some ⟨pb, 0, none⟩), .string (tn i), .agg #[.int .u32 src, .int .u32 (n : Int)], .int .u8 0, .bool false, .bool false, undef, undef, undef, undef, undef, undef, .bool false, undef, undef, undef, undef, undef, undef, undef, undef, undef, undef, .int .u8 0, .bool true, .pointer (some ⟨pb, 0, none⟩), .pointer (some ⟨pb, 0, none⟩), .pointer (some ⟨pb, 0, none⟩), .pointer (some ⟨pb, 199, none⟩), .slice none 0 0, .agg #[.int .u32 src, .int .u32 (n : Int)], .agg #[.nilIface, .int .i32 0, .int .u32 src, .int .u32 (n : Int)], .slice (some ⟨nd12, 0, none⟩) 1 1, .slice (some ⟨nd13, 0, none⟩) 1 (1 + nd14), .pointer (some ⟨pb, 0, none⟩), .pointer (some ⟨pb, 199, none⟩), .pointer (some ⟨ms, 0, none⟩), .pointer (some ⟨ms, 0, none⟩), .pointer (some ⟨ms, 0, none⟩), .pointer (some ⟨ms, 5, none⟩), .slice none 0 0, .agg #[.int .u32 src, .int .u32 (n : Int)], .slice (some ⟨α 6, 0, none⟩) 1 1, .slice (some ⟨α 7, 0, none⟩) 1 (1 + α 1007), .pointer (some ⟨ms, 0, none⟩), .pointer (some ⟨ms, 5, none⟩), undef], []⟩ := by rw [← hfr]; kernel_rfl
  clear hfr
  subst hdf
  generalize α 6 = nd16 at hO ⊢
  generalize α 7 = nd17 at hO ⊢
  generalize α 1007 = nd18 at hO ⊢
  clear α
  subst hX9_15
  have hN : Own w0 u [row (B9) 58 #[.int .u32 src, .int .u32 (n : Int)], row (ms) 194 (MC.setIfInBounds 5 (.slice (some ⟨nd17, 0, none⟩) 1 (1 + nd18))), row (nd16) 58 #[.int .u32 src, .int .u32 (n : Int)], row (nd17) 58 (full refZ [.int .u32 src, .int .u32 (n : Int)] (nd18)), row (pb) 182 (((PC.setIfInBounds 287 (.int .i64 ((i : Int) + 1))).setIfInBounds 106 (.slice (some ⟨nd7, 0, none⟩) (n + 1) (n + 1 + nd8))).setIfInBounds 199 (.slice (some ⟨nd13, 0, none⟩) 1 (1 + nd14))), row (nd12) 295 #[.nilIface, .int .i32 0, .int .u32 src, .int .u32 (n : Int)], row (nd13) 295 (full trfZ [.nilIface, .int .i32 0, .int .u32 src, .int .u32 (n : Int)] (nd14)), row (nd7) 201 (full symZ (symL (st ++ [syk (tn i) 27])) nd8), row (B1) 58 #[.int .u32 0, .int .u32 0]] X := hO.back HL.out HX.out [1, 2, 3, 4, 5] (by decide) (by decide)
  clear hO HL HX
  have hO := hN
  clear hN
  obtain ⟨c9_0_0, c9_0_1, lt9_0, y9_0, -⟩ := hO.k2 0 rfl
  obtain ⟨c9_2_0, c9_2_1, lt9_2, y9_2, -⟩ := hO.k2 2 rfl
  obtain ⟨c9_5_0, c9_5_1, c9_5_2, c9_5_3, lt9_5, y9_5, -⟩ := hO.k4 5 rfl
  obtain ⟨c9_8_0, c9_8_1, lt9_8, y9_8, -⟩ := hO.k2 8 rfl
  have HO := Lib.hid hO
  clear hO
  go_wp2_with (first | (with_reducible refine Own.stay (fn := Tryz.f41) ?_) | (first | (go_at_call 52; go_in)))
  try with_reducible refine Own.Stay.mk ?_
  have hO := HO.out
  clear HO c9_0_0 c9_0_1 lt9_0 y9_0 c9_2_0 c9_2_1 lt9_2 y9_2 c9_5_0 c9_5_1 c9_5_2 c9_5_3 lt9_5 y9_5 c9_8_0 c9_8_1 lt9_8 y9_8
  generalize hW : World.setCell _ _ _ = W20
  have hN : Own w0 W20 [row (B9) 58 #[.int .u32 src, .int .u32 (n : Int)], row (ms) 194 (MC.setIfInBounds 5 (.slice (some ⟨nd17, 0, none⟩) 1 (1 + nd18))), row (nd16) 58 #[.int .u32 src, .int .u32 (n : Int)], row (nd17) 58 (full refZ [.int .u32 src, .int .u32 (n : Int)] (nd18)), row (pb) 182 (((PC.setIfInBounds 287 (.int .i64 ((i : Int) + 1))).setIfInBounds 106 (.slice (some ⟨nd7, 0, none⟩) (n + 1) (n + 1 + nd8))).setIfInBounds 199 (.slice (some ⟨nd13, 0, none⟩) 1 (1 + nd14))), row (nd12) 295 #[.nilIface, .int .i32 0, .int .u32 src, .int .u32 (n : Int)], row (nd13) 295 (full trfZ [.nilIface, .int .i32 0, .int .u32 src, .int .u32 (n : Int)] (nd14)), row (nd7) 201 (full symZ (symL (st ++ [syk (tn i) 27])) nd8), row (B1) 58 #[.int .u32 src, .int .u32 (n : Int)]] X := by
    rw [← hW]
    exact ((hO).set 8 rfl 0 _).set 8 rfl 1 _
  clear hW hO
  have hO := hN
  clear hN
  have z9_8_0 : W20.cell? ⟨B1, 0, none⟩ = some (.int .u32 src) := hO.cell 8 rfl 0 rfl
  have z9_8_1 : W20.cell? ⟨B1, 1, none⟩ = some (.int .u32 (n : Int)) := hO.cell 8 rfl 1 rfl
  refine bodyPost_ret (v := .agg #[.int .u32 src, .int .u32 (n : Int)]) ?_ rfl ⟨nd7, nd8, nd13, nd14, nd17, nd18, rfl, hO.sub [4, 7, 1, 6, 3] (by decide)⟩
  simp [results, Tryz.results41, go_sem, z9_8_0, z9_8_1]
end Go.Proofs.YtghofdhhhbbaaaaGreatDoor.Use
