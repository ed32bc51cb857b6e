/- Helpers imported behind others. No condition. -/
import Derived.Test.YtghofdhhhbbaaaaGreatDoorLive
import Derived.Test.YtghofdhhhbbaaaaGreatDoorApp
import Derived.Test.YtghofdhhhbbaaaaGreatDoorOwnK
import Derived.Test.YtghofdhhhbbaaaaGreatDoorOwn
import Derived.Test.YtghofdhhhbbaaaaGreatDoorDeepCells
import Derived.Test.YtghofdhhhbbaaaaGreatDoorRows
import Derived.Test.YtghofdhhhbbaaaaGreatDoorUse
namespace Go.Proofs.YtghofdhhhbbaaaaGreatDoor.Use
open Go.ChangeShapes Go.WideShapes Go.ChangeAt Go.RowKit Go.Sort Own
set_option linter.unusedVariables false
def rIimpF12E (pb : Nat) (PC : Array Value) (n : Nat) (src : Int) (ms : Nat) (MC : Array Value) (gb : Nat) (cg : Nat) (G : List Value) (m : Nat) (loc : Int) (B1_2 : Nat) (nd4 : Nat) (nd5 : Nat) : Nat → Rega.Atoms → Value
  | 0, α => .pointer (some ⟨pb, 0, none⟩)
  | 1, α => .pointer (some ⟨pb, 0, none⟩)
  | 2, α => .pointer (some ⟨pb, 187, none⟩)
  | 3, α => .pointer (some ⟨ms, 0, none⟩)
  | 4, α => .pointer (some ⟨pb, 0, none⟩)
  | 5, α => .pointer (some ⟨pb, 0, none⟩)
  | 6, α => .pointer (some ⟨pb, 187, none⟩)
  | 7, α => .pointer (some ⟨ms, 0, none⟩)
  | 8, α => .pointer (some ⟨ms, 0, none⟩)
  | 9, α => .pointer (some ⟨ms, 5, none⟩)
  | 10, α => .slice (some ⟨gb, 0, none⟩) m (m + cg)
  | 11, α => .pointer (some ⟨B1_2, 1, none⟩)
  | 12, α => .agg #[.int .u32 src, .int .u32 (n : Int)]
  | 13, α => .slice (some ⟨α 13, 0, none⟩) 1 1
  | 14, α => .slice (some ⟨α 14, 0, none⟩) (m + 1) (m + 1 + α 1014)
  | 15, α => .pointer (some ⟨ms, 0, none⟩)
  | 16, α => .pointer (some ⟨ms, 5, none⟩)
  | 17, α => undef
  | _, _ => undef
def rIimpF12Anc : Nat → List Nat
  | 1 => [0]
  | 2 => [0, 1]
  | 3 => [0, 1, 2]
  | 5 => [4]
  | 6 => [4, 5]
  | 7 => [4, 5, 6]
  | 8 => [4, 5, 6, 7]
  | 9 => [4, 5, 6, 7, 8]
  | 10 => [4, 5, 6, 7, 8, 9]
  | 12 => [11]
  | 13 => [11, 12]
  | 14 => [4, 5, 6, 7, 8, 9, 10, 11, 12, 13]
  | 15 => [0, 1, 2, 3, 4, 5, 6, 7, 8, 9, 10, 11, 12, 13, 14]
  | 16 => [0, 1, 2, 3, 4, 5, 6, 7, 8, 9, 10, 11, 12, 13, 14, 15]
  | 17 => [0, 1, 2, 3, 4, 5, 6, 7, 8, 9, 10, 11, 12, 13, 14, 15, 16]
  | _ => []
def rIimpF12Trn : Nat → List Nat
  | 14 => [3999]
  | 17 => [2999]
  | _ => []
def rIimpF12Cnt : List (Nat × Nat) := [(13, 1)]
def rIimpF12T2999 (pb : Nat) (PC : Array Value) (n : Nat) (src : Int) (ms : Nat) (MC : Array Value) (gb : Nat) (cg : Nat) (G : List Value) (m : Nat) (loc : Int) (B1_2 : Nat) (nd4 : Nat) (nd5 : Nat) (L9 : Nat → Bool) (α : Rega.Atoms) : Rw := if L9 17 = true then row (ms) 194 (MC.setIfInBounds 5 (.slice (some ⟨α 14, 0, none⟩) (m + 1) (m + 1 + α 1014))) else row (ms) 194 MC
def rIimpF12T3999 (pb : Nat) (PC : Array Value) (n : Nat) (src : Int) (ms : Nat) (MC : Array Value) (gb : Nat) (cg : Nat) (G : List Value) (m : Nat) (loc : Int) (B1_2 : Nat) (nd4 : Nat) (nd5 : Nat) (L9 : Nat → Bool) (α : Rega.Atoms) : Rw := if L9 14 = true then row (α 14) 58 (full refZ (G ++ [.int .u32 src, .int .u32 (n : Int)]) (α 1014)) else row (gb) 58 (full refZ G cg)
def rIimpF12R (pb : Nat) (PC : Array Value) (n : Nat) (src : Int) (ms : Nat) (MC : Array Value) (gb : Nat) (cg : Nat) (G : List Value) (m : Nat) (loc : Int) (B1_2 : Nat) (nd4 : Nat) (nd5 : Nat) (L9 : Nat → Bool) (α : Rega.Atoms) (ix9 : Nat) : Rw := if ix9 = 999 then row (pb) 182 (PC.setIfInBounds 106 (.slice (some ⟨nd4, 0, none⟩) (n + 1) (n + 1 + nd5))) else if ix9 = 1999 then row (B1_2) 191 #[.int .i32 loc, .int .u32 src, .int .u32 (n : Int)] else if ix9 = 2999 then rIimpF12T2999 pb PC n src ms MC gb cg G m loc B1_2 nd4 nd5 L9 α else if ix9 = 3999 then rIimpF12T3999 pb PC n src ms MC gb cg G m loc B1_2 nd4 nd5 L9 α else if ix9 = 13 then row (α 13) 58 #[.int .u32 src, .int .u32 (n : Int)] else (0, .map #[] 0)
theorem rIimpF12_he (pb : Nat) (PC : Array Value) (n : Nat) (src : Int) (ms : Nat) (MC : Array Value) (gb : Nat) (cg : Nat) (G : List Value) (m : Nat) (loc : Int) (B1_2 : Nat) (nd4 : Nat) (nd5 : Nat) : ∀ kk α α', (∀ j, (j % 1000 = kk ∨ j % 1000 ∈ rIimpF12Anc kk) → α j = α' j) → rIimpF12E pb PC n src ms MC gb cg G m loc B1_2 nd4 nd5 kk α = rIimpF12E pb PC n src ms MC gb cg G m loc B1_2 nd4 nd5 kk α' := by
  intro kk α α' h
  match kk with
  | 0 => rfl
  | 1 => rfl
  | 2 => rfl
  | 3 => rfl
  | 4 => rfl
  | 5 => rfl
  | 6 => rfl
  | 7 => rfl
  | 8 => rfl
  | 9 => rfl
  | 10 => rfl
  | 11 => rfl
  | 12 => rfl
  | 13 => simp only [rIimpF12E, h 13 (Or.inl rfl)]
  | 14 => simp only [rIimpF12E, h 14 (Or.inl rfl), h 1014 (Or.inl rfl)]
  | 15 => rfl
  | 16 => rfl
  | 17 => rfl
  | n + 18 => rfl
theorem rIimpF12_st (pb : Nat) (PC : Array Value) (n : Nat) (src : Int) (ms : Nat) (MC : Array Value) (gb : Nat) (cg : Nat) (G : List Value) (m : Nat) (loc : Int) (B1_2 : Nat) (nd4 : Nat) (nd5 : Nat) : Stable rIimpF12Cnt 4 rIimpF12Anc rIimpF12Trn (rIimpF12R pb PC n src ms MC gb cg G m loc B1_2 nd4 nd5) := by
  intro k9 L9 α α' ix9 hk hcl hα hact ht
  have hp := act_places hact
  replace hp : ix9 ∈ [999, 1999, 2999, 3999, 13] := hp
  simp only [List.mem_cons, List.not_mem_nil, or_false] at hp
  rcases hp with rfl | rfl | rfl | rfl | rfl
  · rfl
  · rfl
  · show rIimpF12T2999 pb PC n src ms MC gb cg G m loc B1_2 nd4 nd5 (Rega.ran L9 k9) α' = rIimpF12T2999 pb PC n src ms MC gb cg G m loc B1_2 nd4 nd5 L9 α
    unfold rIimpF12T2999
    have n17 : 17 ≠ k9 := fun e => ht (by rw [← e]; decide)
    rw [ran_ne n17]
    by_cases e17 : L9 17 = true
    · first | rw [if_pos e17, if_pos e17] | rw [if_pos e17]
      try simp only [hα 14 (ne_ran hk (hcl 17 e17 14 (by decide))), hα 1014 (ne_ran hk (hcl 17 e17 14 (by decide)))]
    first | rw [if_neg e17, if_neg e17] | rw [if_neg e17]
  · show rIimpF12T3999 pb PC n src ms MC gb cg G m loc B1_2 nd4 nd5 (Rega.ran L9 k9) α' = rIimpF12T3999 pb PC n src ms MC gb cg G m loc B1_2 nd4 nd5 L9 α
    unfold rIimpF12T3999
    have n14 : 14 ≠ k9 := fun e => ht (by rw [← e]; decide)
    rw [ran_ne n14]
    by_cases e14 : L9 14 = true
    · first | rw [if_pos e14, if_pos e14] | rw [if_pos e14]
      try simp only [hα 14 (ne_ran hk e14), hα 1014 (ne_ran hk e14)]
    first | rw [if_neg e14, if_neg e14] | rw [if_neg e14]
  · have e0 : L9 13 = true := act_lt hact (by decide)
    show row (α' 13) 58 #[.int .u32 src, .int .u32 (n : Int)] = row (α 13) 58 #[.int .u32 src, .int .u32 (n : Int)]
    simp only [hα 13 (ne_ran hk e0)]
def rIimpF13E (pb : Nat) (PC : Array Value) (n : Nat) (src : Int) (mp : Nat) (es : Array MapEntry) (k : Nat) (loc : Int) (nm : ByteArray) (B1_2 : Nat) (nd4 : Nat) (nd5 : Nat) : Nat → Rega.Atoms → Value
  | 0, α => .pointer (some ⟨pb, 0, none⟩)
  | 1, α => .pointer (some ⟨pb, 0, none⟩)
  | 2, α => .pointer (some ⟨pb, 117, none⟩)
  | 3, α => .map (some mp)
  | 4, α => .string nm
  | 5, α => .agg #[.int .i32 loc, .int .u32 src, .int .u32 (n : Int)]
  | 6, α => undef
  | _, _ => undef
def rIimpF13Anc : Nat → List Nat
  | 1 => [0]
  | 2 => [0, 1]
  | 3 => [0, 1, 2]
  | 6 => [0, 1, 2, 3, 4, 5]
  | _ => []
def rIimpF13Trn : Nat → List Nat
  | 6 => [2999]
  | _ => []
def rIimpF13Cnt : List (Nat × Nat) := []
def rIimpF13T2999 (pb : Nat) (PC : Array Value) (n : Nat) (src : Int) (mp : Nat) (es : Array MapEntry) (k : Nat) (loc : Int) (nm : ByteArray) (B1_2 : Nat) (nd4 : Nat) (nd5 : Nat) (L9 : Nat → Bool) (α : Rega.Atoms) : Rw := if L9 6 = true then ((mp, .map (es.push ⟨.string nm, .agg #[.int .i32 loc, .int .u32 src, .int .u32 (n : Int)], k⟩) (k + 1)) : Rw) else ((mp, .map es k) : Rw)
def rIimpF13R (pb : Nat) (PC : Array Value) (n : Nat) (src : Int) (mp : Nat) (es : Array MapEntry) (k : Nat) (loc : Int) (nm : ByteArray) (B1_2 : Nat) (nd4 : Nat) (nd5 : Nat) (L9 : Nat → Bool) (α : Rega.Atoms) (ix9 : Nat) : Rw := if ix9 = 999 then row (pb) 182 (PC.setIfInBounds 106 (.slice (some ⟨nd4, 0, none⟩) (n + 1) (n + 1 + nd5))) else if ix9 = 1999 then row (B1_2) 191 #[.int .i32 loc, .int .u32 src, .int .u32 (n : Int)] else if ix9 = 2999 then rIimpF13T2999 pb PC n src mp es k loc nm B1_2 nd4 nd5 L9 α else (0, .map #[] 0)
theorem rIimpF13_he (pb : Nat) (PC : Array Value) (n : Nat) (src : Int) (mp : Nat) (es : Array MapEntry) (k : Nat) (loc : Int) (nm : ByteArray) (B1_2 : Nat) (nd4 : Nat) (nd5 : Nat) : ∀ kk α α', (∀ j, (j % 1000 = kk ∨ j % 1000 ∈ rIimpF13Anc kk) → α j = α' j) → rIimpF13E pb PC n src mp es k loc nm B1_2 nd4 nd5 kk α = rIimpF13E pb PC n src mp es k loc nm B1_2 nd4 nd5 kk α' := by
  intro kk α α' h
  match kk with
  | 0 => rfl
  | 1 => rfl
  | 2 => rfl
  | 3 => rfl
  | 4 => rfl
  | 5 => rfl
  | 6 => rfl
  | n + 7 => rfl
theorem rIimpF13_st (pb : Nat) (PC : Array Value) (n : Nat) (src : Int) (mp : Nat) (es : Array MapEntry) (k : Nat) (loc : Int) (nm : ByteArray) (B1_2 : Nat) (nd4 : Nat) (nd5 : Nat) : Stable rIimpF13Cnt 3 rIimpF13Anc rIimpF13Trn (rIimpF13R pb PC n src mp es k loc nm B1_2 nd4 nd5) := by
  intro k9 L9 α α' ix9 hk hcl hα hact ht
  have hp := act_places hact
  replace hp : ix9 ∈ [999, 1999, 2999] := hp
  simp only [List.mem_cons, List.not_mem_nil, or_false] at hp
  rcases hp with rfl | rfl | rfl
  · rfl
  · rfl
  · show rIimpF13T2999 pb PC n src mp es k loc nm B1_2 nd4 nd5 (Rega.ran L9 k9) α' = rIimpF13T2999 pb PC n src mp es k loc nm B1_2 nd4 nd5 L9 α
    unfold rIimpF13T2999
    have n6 : 6 ≠ k9 := fun e => ht (by rw [← e]; decide)
    rw [ran_ne n6]
def impF1Post (pb : Nat) (PC : Array Value) (sb c : Nat) (st : List Sy) (n : Nat) (src : Int) (mp : Nat) (es : Array MapEntry) (k ms : Nat) (MC : Array Value) (gb cg : Nat) (G : List Value) (m : Nat) (loc : Int) (nm : ByteArray) (w0 : World) (X : Nat → Obj → Prop) (e : Ending) (w' : World) : Prop :=
  ∃ b : Nat, ∃ sb2 : Nat, ∃ c2 : Nat, ∃ gb2 : Nat, ∃ cg2 : Nat, e = .returned (.agg #[.iface 56 (.pointer (some ⟨b, 0, none⟩)), .int .i32 loc]) ∧ Own w0 w' [row (pb) 182 (PC.setIfInBounds 106 (.slice (some ⟨sb2, 0, none⟩) (n + 1) (n + 1 + c2))), row (sb2) 201 (full symZ (symL (bump (st ++ [syk nm 27]) n)) c2), ((mp, .map (es.push ⟨.string nm, .agg #[.int .i32 loc, .int .u32 src, .int .u32 (n : Int)], k⟩) (k + 1)) : Rw), row (ms) 194 (MC.setIfInBounds 5 (.slice (some ⟨gb2, 0, none⟩) (m + 1) (m + 1 + cg2))), row (gb2) 58 (full refZ (G ++ [.int .u32 src, .int .u32 (n : Int)]) cg2), row (b) 60 #[.int .u32 src, .int .u32 (n : Int), .bool false, .bool false, .bool false]] X
set_option maxRecDepth 100000 in
set_option maxHeartbeats 1000000 in
theorem impF1 (pb : Nat) (PC : Array Value) (sb c : Nat) (st : List Sy) (n : Nat) (src : Int) (mp : Nat) (es : Array MapEntry) (k ms : Nat) (MC : Array Value) (gb cg : Nat) (G : List Value) (m : Nat) (loc : Int) (nm : ByteArray) (w0 w : World) (X : Nat → Obj → Prop) (hO : Own w0 w [row (pb) 182 PC, row (sb) 201 (full symZ (symL st) c), ((mp, .map es k) : Rw), row (ms) 194 MC, row (gb) 58 (full refZ G cg)] X) (hk350 : PC[350]? = some (.bool false)) (hk32 : PC[32]? = some (.bool false)) (hk105 : PC[105]? = some (.pointer none)) (hk66 : PC[66]? = some (.int .u32 src)) (hk117 : PC[117]? = some (.map (some mp))) (hk187 : PC[187]? = some (.pointer (some ⟨ms, 0, none⟩))) (hk106 : PC[106]? = some (.slice (some ⟨sb, 0, none⟩) n (n + c))) (hn : st.length = n) (hnb : n ≤ 2000000) (hgen : MC[5]? = some (.slice (some ⟨gb, 0, none⟩) m (m + cg))) (hgl : G.length = m * 2) (hgm : m ≤ 2000000) (hno : Instr.findNow .string (.string nm) es.toList 0 = some none) (hg0 : w0.cell? ⟨0, 0, none⟩ = some (.int .u32 4294967295)) (hg1 : w0.cell? ⟨0, 1, none⟩ = some (.int .u32 4294967295)) :
    Calls Tryz.prog 51 #[.pointer (some ⟨pb, 0, none⟩), .agg #[.int .i32 loc], .string nm] w (impF1Post pb PC sb c st n src mp es k ms MC gb cg G m loc nm w0 X) := by
  go_enter Tryz.func51, Tryz.ntmps51
  have c9_0_32 : w.cell? ⟨pb, 32, none⟩ = some (.bool false) := hO.cell 0 rfl (32) (hk32)
  have c9_0_66 : w.cell? ⟨pb, 66, none⟩ = some (.int .u32 src) := hO.cell 0 rfl (66) (hk66)
  have c9_0_105 : w.cell? ⟨pb, 105, none⟩ = some (.pointer none) := hO.cell 0 rfl (105) (hk105)
  have c9_0_106 : w.cell? ⟨pb, 106, none⟩ = some (.slice (some ⟨sb, 0, none⟩) n (n + c)) := hO.cell 0 rfl (106) (hk106)
  have c9_0_117 : w.cell? ⟨pb, 117, none⟩ = some (.map (some mp)) := hO.cell 0 rfl (117) (hk117)
  have c9_0_187 : w.cell? ⟨pb, 187, none⟩ = some (.pointer (some ⟨ms, 0, none⟩)) := hO.cell 0 rfl (187) (hk187)
  have c9_0_350 : w.cell? ⟨pb, 350, none⟩ = some (.bool false) := hO.cell 0 rfl (350) (hk350)
  have lt9_0 : pb < w.heap.size := hO.lt 0 rfl
  have y9_0 : ∀ o, w.frozen? ⟨pb, o, none⟩ = false := hO.free 0 rfl
  have c9_3_5 : w.cell? ⟨ms, 5, none⟩ = some (.slice (some ⟨gb, 0, none⟩) m (m + cg)) := hO.cell 3 rfl (5) (hgen)
  have lt9_3 : ms < w.heap.size := hO.lt 3 rfl
  have y9_3 : ∀ o, w.frozen? ⟨ms, o, none⟩ = false := hO.free 3 rfl
  have HO := Lib.hid hO
  clear hO
  have hsl : (symL st).length = n * 10 := by rw [symL_length, hn]
  go_wp2_with (first | (with_reducible refine Own.stay (fn := Tryz.f51) ?_) | (at_lookup; refine wpList_lookup_no rfl _ _ 138 true rfl 9 191 (by kernel_rfl) (by kernel_rfl) (((HO.out.mapAt 2 rfl).alloc _).alloc _) rfl _ rfl (.agg #[.int .i32 0, .int .u32 0, .int .u32 0]) (Tryz.zeroValue191 _) hno ?_))
  try with_reducible refine Own.Stay.mk ?_
  have hO := HO.out
  clear HO c9_0_32 c9_0_66 c9_0_105 c9_0_106 c9_0_117 c9_0_187 c9_0_350 lt9_0 y9_0 c9_3_5 lt9_3 y9_3
  generalize hW : World.alloc _ _ = W2
  have hN : Own w0 W2 [row (w.heap.size + 1 + 1) 191 #[.int .i32 loc, .int .u32 0, .int .u32 0], row (w.heap.size + 1) 29 #[.nilIface, .int .i32 0], row (w.heap.size) 27 #[.int .i32 loc], row (pb) 182 PC, row (sb) 201 (full symZ (symL st) c), ((mp, .map es k) : Rw), row (ms) 194 MC, row (gb) 58 (full refZ G cg)] X := by
    rw [← hW]
    exact (((hO).alloc' _ (w.heap.size) (by simp)).alloc' _ (w.heap.size + 1) (by simp)).alloc' _ (w.heap.size + 1 + 1) (by simp)
  clear hW hO
  generalize w.heap.size + 1 + 1 = B1_2 at hN ⊢
  generalize w.heap.size + 1 = B1_1 at hN ⊢
  generalize w.heap.size = B1 at hN ⊢
  have hO := hN
  clear hN
  have hL := hO.apart
  have hX := hO.apartX
  have HL := Lib.hid hL
  have HX := Lib.hid hX
  clear hL hX
  have hP9 := hO.pick [3, 4] (by decide)
  have T9 := newSymG pb PC sb c st n src 27 nm _ _ _ hP9 hk66 hk32 hk106 hn hnb hg0 hg1
  refine Calls.mono T9 ?_
  clear hP9 T9
  rintro e u3 ⟨nd4, nd5, rfl, hQ⟩
  have hN : Own w0 u3 [row (pb) 182 (PC.setIfInBounds 106 (.slice (some ⟨nd4, 0, none⟩) (n + 1) (n + 1 + nd5))), row (nd4) 201 (full symZ (symL (st ++ [syk nm 27])) nd5), row (B1_2) 191 #[.int .i32 loc, .int .u32 0, .int .u32 0], row (B1_1) 29 #[.nilIface, .int .i32 0], row (B1) 27 #[.int .i32 loc], ((mp, .map es k) : Rw), row (ms) 194 MC, row (gb) 58 (full refZ G cg)] X := hQ.back HL.out HX.out [0, 1, 2, 5, 6, 7] (by decide) (by decide)
  clear hQ HL HX hO
  have hO := hN
  clear hN
  obtain ⟨c9_2_0, c9_2_1, c9_2_2, lt9_2, y9_2, -⟩ := hO.k3 2 rfl
  obtain ⟨c9_3_0, c9_3_1, lt9_3, y9_3, -⟩ := hO.k2 3 rfl
  obtain ⟨c9_4_0, lt9_4, y9_4, -⟩ := hO.k1 4 rfl
  have HO := Lib.hid hO
  clear hO
  go_wp2_with (first | (with_reducible refine Own.stay (fn := Tryz.f51) ?_) | (at_lookup; refine wpList_lookup_no rfl _ _ 138 true rfl 9 191 (by kernel_rfl) (by kernel_rfl) (((HO.out.mapAt 2 rfl).alloc _).alloc _) rfl _ rfl (.agg #[.int .i32 0, .int .u32 0, .int .u32 0]) (Tryz.zeroValue191 _) hno ?_))
  try with_reducible refine Own.Stay.mk ?_
  have hO := HO.out
  clear HO c9_2_0 c9_2_1 c9_2_2 lt9_2 y9_2 c9_3_0 c9_3_1 lt9_3 y9_3 c9_4_0 lt9_4 y9_4
  generalize hW : World.setCell _ _ _ = W7
  have hN : Own w0 W7 [row (pb) 182 (PC.setIfInBounds 106 (.slice (some ⟨nd4, 0, none⟩) (n + 1) (n + 1 + nd5))), row (nd4) 201 (full symZ (symL (st ++ [syk nm 27])) nd5), row (B1_2) 191 #[.int .i32 loc, .int .u32 src, .int .u32 (n : Int)], row (B1_1) 29 #[.nilIface, .int .i32 0], row (B1) 27 #[.int .i32 loc], ((mp, .map es k) : Rw), row (ms) 194 MC, row (gb) 58 (full refZ G cg)] X := by
    rw [← hW]
    exact ((hO).set 2 rfl 1 _).set 2 rfl 2 _
  clear hW hO
  have hO := hN
  clear hN
  have hL := hO.apart
  have hX := hO.apartX
  have HL := Lib.hid hL
  have HX := Lib.hid hX
  clear hL hX
  have hP9 := hO.pick [0, 2, 6, 7] (by decide)
  generalize hX9_8 : Own.Rest _ _ X = X9_8 at hP9
  replace hP9 : Own w0 W7 [row (pb) 182 (PC.setIfInBounds 106 (.slice (some ⟨nd4, 0, none⟩) (n + 1) (n + 1 + nd5))), row (B1_2) 191 #[.int .i32 loc, .int .u32 src, .int .u32 (n : Int)], row (ms) 194 MC, row (gb) 58 (full refZ G cg)] X9_8 := hP9
  clear hO
  have hO := hP9
  clear hP9
  have st9 := rIimpF12_st pb PC n src ms MC gb cg G m loc B1_2 nd4 nd5
  let R9 := rIimpF12R pb PC n src ms MC gb cg G m loc B1_2 nd4 nd5
  refine wp_region_own (e := rIimpF12E pb PC n src ms MC gb cg G m loc B1_2 nd4 nd5) (anc := rIimpF12Anc) (G := (fun L9 α u9 => OwnF w0 u9 (act rIimpF12Cnt 4 L9) (rIimpF12R pb PC n src ms MC gb cg G m loc B1_2 nd4 nd5 L9 α) X9_8)) (by kernel_rfl) (by kernel_rfl) (by kernel_rfl) (by kernel_rfl) (rIimpF12_he pb PC n src ms MC gb cg G m loc B1_2 nd4 nd5) ?_ (RunsAll.all ?_) ?_
  · have hp : ∀ i, act rIimpF12Cnt 4 (fun _ => false) i → i ∈ [999, 1999, 2999, 3999] := by
      intro i hi
      have h9 : i % 1000 = 999 := by
        by_cases h : i % 1000 = 999
        · exact h
        · exact absurd (act_lt hi h) (by simp)
      unfold act at hi
      rw [if_pos h9] at hi
      simp only [List.mem_cons, List.not_mem_nil, or_false]
      omega
    refine hO.drew.family (fun i hi => ?_) (fun i j hi hj hij => ?_)
    · have := hp i hi
      simp only [List.mem_cons, List.not_mem_nil, or_false] at this
      rcases this with rfl | rfl | rfl | rfl <;> rfl
    · have h1 := hp i hi
      have h2 := hp j hj
      simp only [List.mem_cons, List.not_mem_nil, or_false] at h1 h2
      omega
  · refine ⟨?_, ?_, ?_, ?_, ?_, ?_, ?_, ?_, ?_, ?_, ?_, ?_, ?_, ?_, ?_, ?_, ?_, ?_, trivial⟩
    · intro L9 α a9 u9 K9 hL hcl hA hG hS h0 h1 hK
      replace hL : L9 0 = false := hL
      have q0 : a9.tmps[0]? = some (.pointer (some ⟨pb, 0, none⟩)) := (h0 0 (by kernel_rfl)).trans rfl
      have s0 := Rega.eval_of q0
      go_simp
      exact hK _ α _ (fun _ _ => rfl) rfl (step_same (st9) hL hcl rfl rfl hG)
    · intro L9 α a9 u9 K9 hL hcl hA hG hS h0 h1 hK
      replace hL : L9 1 = false := hL
      have q26 : a9.tmps[26]? = some (.pointer (some ⟨pb, 0, none⟩)) := hS 0 26 (by decide) rfl (by show 26 < 60; decide)
      have s26 := Rega.eval_of q26
      go_simp
      exact hK _ α _ (fun _ _ => rfl) rfl (step_same (st9) hL hcl rfl rfl hG)
    · intro L9 α a9 u9 K9 hL hcl hA hG hS h0 h1 hK
      replace hL : L9 2 = false := hL
      have q27 : a9.tmps[27]? = some (.pointer (some ⟨pb, 0, none⟩)) := hS 1 27 (by decide) rfl (by show 27 < 60; decide)
      have s27 := Rega.eval_of q27
      go_simp
      exact hK _ α _ (fun _ _ => rfl) rfl (step_same (st9) hL hcl rfl rfl hG)
    · intro L9 α a9 u9 K9 hL hcl hA hG hS h0 h1 hK
      replace hL : L9 3 = false := hL
      have q28 : a9.tmps[28]? = some (.pointer (some ⟨pb, 187, none⟩)) := hS 2 28 (by decide) rfl (by show 28 < 60; decide)
      have s28 := Rega.eval_of q28
      have e0 : R9 L9 α 999 = row (pb) 182 (PC.setIfInBounds 106 (.slice (some ⟨nd4, 0, none⟩) (n + 1) (n + 1 + nd5))) := rfl
      have hr := hG.rowAt 999 (act_base 999 rfl) e0
      have c0 : u9.cell? ⟨pb, 187, none⟩ = some (.pointer (some ⟨ms, 0, none⟩)) := hr.cell ((get_other hk187 (by omega) _))
      clear hr e0
      go_simp
      exact hK _ α _ (fun _ _ => rfl) rfl (step_same (st9) hL hcl rfl rfl hG)
    · intro L9 α a9 u9 K9 hL hcl hA hG hS h0 h1 hK
      replace hL : L9 4 = false := hL
      have q0 : a9.tmps[0]? = some (.pointer (some ⟨pb, 0, none⟩)) := (h0 0 (by kernel_rfl)).trans rfl
      have s0 := Rega.eval_of q0
      go_simp
      exact hK _ α _ (fun _ _ => rfl) rfl (step_same (st9) hL hcl rfl rfl hG)
    · intro L9 α a9 u9 K9 hL hcl hA hG hS h0 h1 hK
      replace hL : L9 5 = false := hL
      have q30 : a9.tmps[30]? = some (.pointer (some ⟨pb, 0, none⟩)) := hS 4 30 (by decide) rfl (by show 30 < 60; decide)
      have s30 := Rega.eval_of q30
      go_simp
      exact hK _ α _ (fun _ _ => rfl) rfl (step_same (st9) hL hcl rfl rfl hG)
    · intro L9 α a9 u9 K9 hL hcl hA hG hS h0 h1 hK
      replace hL : L9 6 = false := hL
      have q31 : a9.tmps[31]? = some (.pointer (some ⟨pb, 0, none⟩)) := hS 5 31 (by decide) rfl (by show 31 < 60; decide)
      have s31 := Rega.eval_of q31
      go_simp
      exact hK _ α _ (fun _ _ => rfl) rfl (step_same (st9) hL hcl rfl rfl hG)
    · intro L9 α a9 u9 K9 hL hcl hA hG hS h0 h1 hK
      replace hL : L9 7 = false := hL
      have q32 : a9.tmps[32]? = some (.pointer (some ⟨pb, 187, none⟩)) := hS 6 32 (by decide) rfl (by show 32 < 60; decide)
      have s32 := Rega.eval_of q32
      have e0 : R9 L9 α 999 = row (pb) 182 (PC.setIfInBounds 106 (.slice (some ⟨nd4, 0, none⟩) (n + 1) (n + 1 + nd5))) := rfl
      have hr := hG.rowAt 999 (act_base 999 rfl) e0
      have c0 : u9.cell? ⟨pb, 187, none⟩ = some (.pointer (some ⟨ms, 0, none⟩)) := hr.cell ((get_other hk187 (by omega) _))
      clear hr e0
      go_simp
      exact hK _ α _ (fun _ _ => rfl) rfl (step_same (st9) hL hcl rfl rfl hG)
    · intro L9 α a9 u9 K9 hL hcl hA hG hS h0 h1 hK
      replace hL : L9 8 = false := hL
      have q33 : a9.tmps[33]? = some (.pointer (some ⟨ms, 0, none⟩)) := hS 7 33 (by decide) rfl (by show 33 < 60; decide)
      have s33 := Rega.eval_of q33
      go_simp
      exact hK _ α _ (fun _ _ => rfl) rfl (step_same (st9) hL hcl rfl rfl hG)
    · intro L9 α a9 u9 K9 hL hcl hA hG hS h0 h1 hK
      replace hL : L9 9 = false := hL
      have q34 : a9.tmps[34]? = some (.pointer (some ⟨ms, 0, none⟩)) := hS 8 34 (by decide) rfl (by show 34 < 60; decide)
      have s34 := Rega.eval_of q34
      go_simp
      exact hK _ α _ (fun _ _ => rfl) rfl (step_same (st9) hL hcl rfl rfl hG)
    · intro L9 α a9 u9 K9 hL hcl hA hG hS h0 h1 hK
      replace hL : L9 10 = false := hL
      have q35 : a9.tmps[35]? = some (.pointer (some ⟨ms, 5, none⟩)) := hS 9 35 (by decide) rfl (by show 35 < 60; decide)
      have s35 := Rega.eval_of q35
      have e0 : R9 L9 α 2999 = row (ms) 194 MC := by
        show rIimpF12T2999 pb PC n src ms MC gb cg G m loc B1_2 nd4 nd5 L9 α = _
        unfold rIimpF12T2999
        rw [if_neg (fun e => by have := hcl 17 e 10 (by decide); rw [hL] at this; cases this)]
      have hr := hG.rowAt 2999 (act_base 2999 rfl) e0
      have c0 : u9.cell? ⟨ms, 5, none⟩ = some (.slice (some ⟨gb, 0, none⟩) m (m + cg)) := hr.cell (hgen)
      clear hr e0
      go_simp
      exact hK _ α _ (fun _ _ => rfl) rfl (step_same (st9) hL hcl rfl rfl hG)
    · intro L9 α a9 u9 K9 hL hcl hA hG hS h0 h1 hK
      replace hL : L9 11 = false := hL
      have q7 : a9.tmps[7]? = some (.pointer (some ⟨B1_2, 0, none⟩)) := (h0 7 (by kernel_rfl)).trans rfl
      have s7 := Rega.eval_of q7
      go_simp
      exact hK _ α _ (fun _ _ => rfl) rfl (step_same (st9) hL hcl rfl rfl hG)
    · intro L9 α a9 u9 K9 hL hcl hA hG hS h0 h1 hK
      replace hL : L9 12 = false := hL
      have q37 : a9.tmps[37]? = some (.pointer (some ⟨B1_2, 1, none⟩)) := hS 11 37 (by decide) rfl (by show 37 < 60; decide)
      have s37 := Rega.eval_of q37
      have e0 : R9 L9 α 1999 = row (B1_2) 191 #[.int .i32 loc, .int .u32 src, .int .u32 (n : Int)] := rfl
      have hr := hG.rowAt 1999 (act_base 1999 rfl) e0
      have c0 : u9.cell? ⟨B1_2, 1, none⟩ = some (.int .u32 src) := hr.cell rfl
      have c1 : u9.cell? ⟨B1_2, 2, none⟩ = some (.int .u32 (n : Int)) := hr.cell rfl
      clear hr e0
      go_simp
      exact hK _ α _ (fun _ _ => rfl) rfl (step_same (st9) hL hcl rfl rfl hG)
    · intro L9 α a9 u9 K9 hL hcl hA hG hS h0 h1 hK
      replace hL : L9 13 = false := hL
      have q38 : a9.tmps[38]? = some (.agg #[.int .u32 src, .int .u32 (n : Int)]) := hS 12 38 (by decide) rfl (by show 38 < 60; decide)
      have s38 := Rega.eval_of q38
      go_simp
      exact hK _ (fun j => if j = 13 then u9.heap.size else α j) _ (fun j hj => if_neg (fun e => hj (by rw [e]))) rfl (step_alloc (st9) hL hcl rfl rfl (by decide) _ rfl hG)
    · intro L9 α a9 u9 K9 hL hcl hA hG hS h0 h1 hK
      replace hL : L9 14 = false := hL
      have q36 : a9.tmps[36]? = some (.slice (some ⟨gb, 0, none⟩) m (m + cg)) := hS 10 36 (by decide) rfl (by show 36 < 60; decide)
      have s36 := Rega.eval_of q36
      have q39 : a9.tmps[39]? = some (.slice (some ⟨α 13, 0, none⟩) 1 1) := hS 13 39 (by decide) rfl (by show 39 < 60; decide)
      have s39 := Rega.eval_of q39
      simp only [Region.wanted, if_true]
      have e0 : R9 L9 α 3999 = row (gb) 58 (full refZ G cg) := by
        show rIimpF12T3999 pb PC n src ms MC gb cg G m loc B1_2 nd4 nd5 L9 α = _
        unfold rIimpF12T3999
        rw [if_neg (by rw [hL]; decide)]
      have e1 : R9 L9 α 13 = row (α 13) 58 #[.int .u32 src, .int .u32 (n : Int)] := rfl
      have hM : ∀ i, i ∈ [3999, 13] → act rIimpF12Cnt 4 L9 i := by
        intro i hi
        simp only [List.mem_cons, List.not_mem_nil, or_false] at hi
        rcases hi with rfl | rfl
        · exact act_base 3999 rfl
        · exact act_new 13 rfl (hA 13 (by decide))
      have hP : Own w0 u9 [row (gb) 58 (full refZ G cg), row (α 13) 58 #[.int .u32 src, .int .u32 (n : Int)]] _ := (hG.pick [3999, 13] (by decide) hM).conv (by
        show [R9 L9 α 3999, R9 L9 α 13] = _
        rw [e0, e1])
      clear e0 e1 hM
      obtain ⟨i9, hi9, z1, z2, z3⟩ := info_parts infoRef
      refine wp_append_full (Operand.tmp 36) (Operand.tmp 39) 130 rfl 58 i9 (.agg refZ) 2 8 Tryz.underlying130 hi9 z1 z2 z3 rfl (by decide) hP s36 s39 (by first | rfl | assumption | (simp; done) | (simp; omega)) (by first | rfl | assumption | omega) rfl (oneAll rfl) (by first | decide | omega | (unfold maxLen; omega)) (by first | decide | omega | (unfold maxLen; omega)) ?_
      intro b0 b1 u1 hQ
      obtain ⟨α', hα'⟩ : ∃ α' : Rega.Atoms, α' = (fun j => if j = 14 then b0 else if j = 1014 then b1 else α j) := ⟨_, rfl⟩
      have f0 : R9 (Rega.ran L9 14) α' 3999 = row (α' 14) 58 (full refZ (G ++ [.int .u32 src, .int .u32 (n : Int)]) (α' 1014)) := by
        show rIimpF12T3999 pb PC n src ms MC gb cg G m loc B1_2 nd4 nd5 (Rega.ran L9 14) α' = _
        unfold rIimpF12T3999
        rw [if_pos (show Rega.ran L9 14 14 = true from rfl)]
      have f1 : R9 (Rega.ran L9 14) α' 13 = row (α' 13) 58 #[.int .u32 src, .int .u32 (n : Int)] := rfl
      have hα : ∀ j, j % 1000 ≠ 14 → α' j = α j := fun j hj => by rw [hα']; simp only []; rw [if_neg (by omega), if_neg (by omega)]
      have hb0 : α' 14 = b0 := by rw [hα']; rfl
      have hb1 : α' 1014 = b1 := by rw [hα']; rfl
      have ha13 : α' 13 = α 13 := hα 13 (by decide)
      refine hK _ α' _ hα ?_ (step_call (st9) hL hcl hα [3999, 13] [3999, 13] (by decide) (by decide) (by decide) (M := _) ?_ hG hQ)
      · show _ = (.slice (some ⟨α' 14, 0, none⟩) (m + 1) (m + 1 + α' 1014) : Value)
        simp only [hb0, hb1]
      · show [R9 (Rega.ran L9 14) α' 3999, R9 (Rega.ran L9 14) α' 13] = _
        rw [f0, f1]
        simp only [hb0, hb1, ha13]
        try rfl
    · intro L9 α a9 u9 K9 hL hcl hA hG hS h0 h1 hK
      replace hL : L9 15 = false := hL
      have q29 : a9.tmps[29]? = some (.pointer (some ⟨ms, 0, none⟩)) := hS 3 29 (by decide) rfl (by show 29 < 60; decide)
      have s29 := Rega.eval_of q29
      go_simp
      exact hK _ α _ (fun _ _ => rfl) rfl (step_same (st9) hL hcl rfl rfl hG)
    · intro L9 α a9 u9 K9 hL hcl hA hG hS h0 h1 hK
      replace hL : L9 16 = false := hL
      have q41 : a9.tmps[41]? = some (.pointer (some ⟨ms, 0, none⟩)) := hS 15 41 (by decide) rfl (by show 41 < 60; decide)
      have s41 := Rega.eval_of q41
      go_simp
      exact hK _ α _ (fun _ _ => rfl) rfl (step_same (st9) hL hcl rfl rfl hG)
    · intro L9 α a9 u9 K9 hL hcl hA hG hS h0 h1 hK
      replace hL : L9 17 = false := hL
      have q42 : a9.tmps[42]? = some (.pointer (some ⟨ms, 5, none⟩)) := hS 16 42 (by decide) rfl (by show 42 < 60; decide)
      have s42 := Rega.eval_of q42
      have q40 : a9.tmps[40]? = some (.slice (some ⟨α 14, 0, none⟩) (m + 1) (m + 1 + α 1014)) := hS 14 40 (by decide) rfl (by show 40 < 60; decide)
      have s40 := Rega.eval_of q40
      have e0 : R9 L9 α 2999 = row (ms) 194 MC := by
        show rIimpF12T2999 pb PC n src ms MC gb cg G m loc B1_2 nd4 nd5 L9 α = _
        unfold rIimpF12T2999
        rw [if_neg (by rw [hL]; decide)]
      have hr := hG.rowAt 2999 (act_base 2999 rfl) e0
      have c0 : u9.cell? ⟨ms, 5, none⟩ = some (.slice (some ⟨gb, 0, none⟩) m (m + cg)) := hr.cell (hgen)
      have y0 : u9.frozen? ⟨ms, 5, none⟩ = false := hr.free (5)
      clear hr
      have E0 := Lib.hid e0
      clear e0
      go_simp
      have e1 : R9 (Rega.ran L9 17) α 2999 = row (ms) 194 (MC.setIfInBounds 5 (.slice (some ⟨α 14, 0, none⟩) (m + 1) (m + 1 + α 1014))) := by
        show rIimpF12T2999 pb PC n src ms MC gb cg G m loc B1_2 nd4 nd5 (Rega.ran L9 17) α = _
        unfold rIimpF12T2999
        rw [if_pos (show Rega.ran L9 17 17 = true from rfl)]
      exact hK _ α _ (fun _ _ => rfl) rfl (step_sets (st9) hL hcl rfl 2999 rfl (act_base 2999 rfl) E0.out (5) [.slice (some ⟨α 14, 0, none⟩) (m + 1) (m + 1 + α 1014)] (e1.trans rfl) hG)
  clear st9
  intro α u hG
  have e0 : R9 (fun k => decide (k < 18)) α 999 = row (pb) 182 (PC.setIfInBounds 106 (.slice (some ⟨nd4, 0, none⟩) (n + 1) (n + 1 + nd5))) := rfl
  have e1 : R9 (fun k => decide (k < 18)) α 1999 = row (B1_2) 191 #[.int .i32 loc, .int .u32 src, .int .u32 (n : Int)] := rfl
  have e2 : R9 (fun k => decide (k < 18)) α 2999 = row (ms) 194 (MC.setIfInBounds 5 (.slice (some ⟨α 14, 0, none⟩) (m + 1) (m + 1 + α 1014))) := by
    show rIimpF12T2999 pb PC n src ms MC gb cg G m loc B1_2 nd4 nd5 (fun k => decide (k < 18)) α = _
    unfold rIimpF12T2999
    rw [if_pos (by decide)]
  have e3 : R9 (fun k => decide (k < 18)) α 3999 = row (α 14) 58 (full refZ (G ++ [.int .u32 src, .int .u32 (n : Int)]) (α 1014)) := by
    show rIimpF12T3999 pb PC n src ms MC gb cg G m loc B1_2 nd4 nd5 (fun k => decide (k < 18)) α = _
    unfold rIimpF12T3999
    rw [if_pos (by decide)]
  have e4 : R9 (fun k => decide (k < 18)) α 13 = row (α 13) 58 #[.int .u32 src, .int .u32 (n : Int)] := rfl
  have hO : Own w0 u [row (pb) 182 (PC.setIfInBounds 106 (.slice (some ⟨nd4, 0, none⟩) (n + 1) (n + 1 + nd5))), row (B1_2) 191 #[.int .i32 loc, .int .u32 src, .int .u32 (n : Int)], row (ms) 194 (MC.setIfInBounds 5 (.slice (some ⟨α 14, 0, none⟩) (m + 1) (m + 1 + α 1014))), row (α 14) 58 (full refZ (G ++ [.int .u32 src, .int .u32 (n : Int)]) (α 1014)), row (α 13) 58 #[.int .u32 src, .int .u32 (n : Int)]] X9_8 := (hG.list [999, 1999, 2999, 3999, 13] (by decide) (act_all (by decide))).conv (by
    show [R9 (fun k => decide (k < 18)) α 999, R9 (fun k => decide (k < 18)) α 1999, R9 (fun k => decide (k < 18)) α 2999, R9 (fun k => decide (k < 18)) α 3999, R9 (fun k => decide (k < 18)) α 13] = _
    rw [e0, e1, e2, e3, e4])
  clear hG e0 e1 e2 e3 e4 R9
  generalize hfr : Rega.frameAt _ _ _ _ _ = fr
  have hdf : fr = ⟨#[.pointer (some ⟨pb, 0, none⟩), .agg #[.int .i32 loc], .string nm, undef, .pointer (some ⟨B1, 0, none⟩), undef, .pointer (some ⟨B1_1, 0, none⟩), .pointer (some ⟨B1_2, 0, none⟩), .bool false, .tuple #[.agg #[.int .i32 0, .int .u32 0, .int .u32 0], .bool false], .pointer (some ⟨pb, 0, none⟩), .pointer (some ⟨pb, 0, none⟩), .pointer (some ⟨pb, 117, none⟩), .map (some mp), .string nm, .tuple #[.agg #[.int .i32 0, .int .u32 0, .int .u32 0], .bool false], .agg #[.int .i32 0, .int .u32 0, .int .u32 0], .bool false, .bool false, .bool true, .agg #[.int .i32 loc], .pointer (some ⟨B1_2, 0, none⟩), .pointer (some ⟨pb, 0, none⟩), .string nm, .agg #[.int .u32 src, .int .u32 (n : Int)], .pointer (some ⟨B1_2, 1, none⟩), .pointer (some ⟨pb, 0, none⟩), .pointer (some ⟨pb, 0, none⟩), .pointer (some ⟨pb, 187, none⟩), .pointer (some ⟨ms, 0, none⟩), .pointer (some ⟨pb, 0, none⟩), .pointer (some ⟨pb, 0, none⟩), .pointer (some ⟨pb, 187, none⟩), .pointer (some ⟨ms, 0, none⟩), .pointer (some ⟨ms, 0, none⟩), .pointer (some ⟨ms, 5, none⟩), .slice (some ⟨gb, 0, none⟩) m (m + cg), .pointer (some ⟨B1_2, 1, none⟩), .agg #[.int .u32 src, .int .u32 (n : Int)], .slice (some ⟨α 13, 0, none⟩) 1 1, .slice (some ⟨α 14, 0, none⟩) (m + 1) (m + 1 + α 1014), .pointer (some ⟨ms, 0, none⟩), .pointer (some ⟨ms, 5, none⟩), undef, undef, undef, undef, undef, undef, undef, undef, undef, undef, undef, undef, undef, undef, undef, undef, undef], []⟩ := by rw [← hfr]; kernel_rfl
  clear hfr
  subst hdf
  generalize α 13 = nd9 at hO ⊢
  generalize α 14 = nd10 at hO ⊢
  generalize α 1014 = nd11 at hO ⊢
  clear α
  subst hX9_8
  have hN : Own w0 u [row (pb) 182 (PC.setIfInBounds 106 (.slice (some ⟨nd4, 0, none⟩) (n + 1) (n + 1 + nd5))), row (B1_2) 191 #[.int .i32 loc, .int .u32 src, .int .u32 (n : Int)], row (ms) 194 (MC.setIfInBounds 5 (.slice (some ⟨nd10, 0, none⟩) (m + 1) (m + 1 + nd11))), row (nd10) 58 (full refZ (G ++ [.int .u32 src, .int .u32 (n : Int)]) (nd11)), row (nd9) 58 #[.int .u32 src, .int .u32 (n : Int)], row (nd4) 201 (full symZ (symL (st ++ [syk nm 27])) nd5), row (B1_1) 29 #[.nilIface, .int .i32 0], row (B1) 27 #[.int .i32 loc], ((mp, .map es k) : Rw)] X := hO.back HL.out HX.out [1, 3, 4, 5] (by decide) (by decide)
  clear hO HL HX
  have hO := hN
  clear hN
  obtain ⟨c9_1_0, c9_1_1, c9_1_2, lt9_1, y9_1, -⟩ := hO.k3 1 rfl
  obtain ⟨c9_4_0, c9_4_1, lt9_4, y9_4, -⟩ := hO.k2 4 rfl
  obtain ⟨c9_6_0, c9_6_1, lt9_6, y9_6, -⟩ := hO.k2 6 rfl
  obtain ⟨c9_7_0, lt9_7, y9_7, -⟩ := hO.k1 7 rfl
  have HO := Lib.hid hO
  clear hO
  go_wp2_with (first | (with_reducible refine Own.stay (fn := Tryz.f51) ?_) | (at_lookup; refine wpList_lookup_no rfl _ _ 138 true rfl 9 191 (by kernel_rfl) (by kernel_rfl) (((HO.out.mapAt 2 rfl).alloc _).alloc _) rfl _ rfl (.agg #[.int .i32 0, .int .u32 0, .int .u32 0]) (Tryz.zeroValue191 _) hno ?_))
  try with_reducible refine Own.Stay.mk ?_
  have hO := HO.out
  clear HO c9_1_0 c9_1_1 c9_1_2 lt9_1 y9_1 c9_4_0 c9_4_1 lt9_4 y9_4 c9_6_0 c9_6_1 lt9_6 y9_6 c9_7_0 lt9_7 y9_7
  have hL := hO.apart
  have hX := hO.apartX
  have HL := Lib.hid hL
  have HX := Lib.hid hX
  clear hL hX
  have hP9 := hO.pick [0, 1, 8] (by decide)
  generalize hX9_12 : Own.Rest _ _ X = X9_12 at hP9
  replace hP9 : Own w0 u [row (pb) 182 (PC.setIfInBounds 106 (.slice (some ⟨nd4, 0, none⟩) (n + 1) (n + 1 + nd5))), row (B1_2) 191 #[.int .i32 loc, .int .u32 src, .int .u32 (n : Int)], ((mp, .map es k) : Rw)] X9_12 := hP9
  clear hO
  have hO := hP9
  clear hP9
  have st9 := rIimpF13_st pb PC n src mp es k loc nm B1_2 nd4 nd5
  let R9 := rIimpF13R pb PC n src mp es k loc nm B1_2 nd4 nd5
  refine wp_region_own (e := rIimpF13E pb PC n src mp es k loc nm B1_2 nd4 nd5) (anc := rIimpF13Anc) (G := (fun L9 α u9 => OwnF w0 u9 (act rIimpF13Cnt 3 L9) (rIimpF13R pb PC n src mp es k loc nm B1_2 nd4 nd5 L9 α) X9_12)) (by kernel_rfl) (by kernel_rfl) (by kernel_rfl) (by kernel_rfl) (rIimpF13_he pb PC n src mp es k loc nm B1_2 nd4 nd5) ?_ (RunsAll.all ?_) ?_
  · have hp : ∀ i, act rIimpF13Cnt 3 (fun _ => false) i → i ∈ [999, 1999, 2999] := by
      intro i hi
      have h9 : i % 1000 = 999 := by
        by_cases h : i % 1000 = 999
        · exact h
        · exact absurd (act_lt hi h) (by simp)
      unfold act at hi
      rw [if_pos h9] at hi
      simp only [List.mem_cons, List.not_mem_nil, or_false]
      omega
    refine hO.drew.family (fun i hi => ?_) (fun i j hi hj hij => ?_)
    · have := hp i hi
      simp only [List.mem_cons, List.not_mem_nil, or_false] at this
      rcases this with rfl | rfl | rfl <;> rfl
    · have h1 := hp i hi
      have h2 := hp j hj
      simp only [List.mem_cons, List.not_mem_nil, or_false] at h1 h2
      omega
  · refine ⟨?_, ?_, ?_, ?_, ?_, ?_, ?_, trivial⟩
    · intro L9 α a9 u9 K9 hL hcl hA hG hS h0 h1 hK
      replace hL : L9 0 = false := hL
      have q0 : a9.tmps[0]? = some (.pointer (some ⟨pb, 0, none⟩)) := (h0 0 (by kernel_rfl)).trans rfl
      have s0 := Rega.eval_of q0
      go_simp
      exact hK _ α _ (fun _ _ => rfl) rfl (step_same (st9) hL hcl rfl rfl hG)
    · intro L9 α a9 u9 K9 hL hcl hA hG hS h0 h1 hK
      replace hL : L9 1 = false := hL
      have q43 : a9.tmps[43]? = some (.pointer (some ⟨pb, 0, none⟩)) := hS 0 43 (by decide) rfl (by show 43 < 60; decide)
      have s43 := Rega.eval_of q43
      go_simp
      exact hK _ α _ (fun _ _ => rfl) rfl (step_same (st9) hL hcl rfl rfl hG)
    · intro L9 α a9 u9 K9 hL hcl hA hG hS h0 h1 hK
      replace hL : L9 2 = false := hL
      have q44 : a9.tmps[44]? = some (.pointer (some ⟨pb, 0, none⟩)) := hS 1 44 (by decide) rfl (by show 44 < 60; decide)
      have s44 := Rega.eval_of q44
      go_simp
      exact hK _ α _ (fun _ _ => rfl) rfl (step_same (st9) hL hcl rfl rfl hG)
    · intro L9 α a9 u9 K9 hL hcl hA hG hS h0 h1 hK
      replace hL : L9 3 = false := hL
      have q45 : a9.tmps[45]? = some (.pointer (some ⟨pb, 117, none⟩)) := hS 2 45 (by decide) rfl (by show 45 < 60; decide)
      have s45 := Rega.eval_of q45
      have e0 : R9 L9 α 999 = row (pb) 182 (PC.setIfInBounds 106 (.slice (some ⟨nd4, 0, none⟩) (n + 1) (n + 1 + nd5))) := rfl
      have hr := hG.rowAt 999 (act_base 999 rfl) e0
      have c0 : u9.cell? ⟨pb, 117, none⟩ = some (.map (some mp)) := hr.cell ((get_other hk117 (by omega) _))
      clear hr e0
      go_simp
      exact hK _ α _ (fun _ _ => rfl) rfl (step_same (st9) hL hcl rfl rfl hG)
    · intro L9 α a9 u9 K9 hL hcl hA hG hS h0 h1 hK
      replace hL : L9 4 = false := hL
      have q2 : a9.tmps[2]? = some (.string nm) := (h0 2 (by kernel_rfl)).trans rfl
      have s2 := Rega.eval_of q2
      go_simp
      exact hK _ α _ (fun _ _ => rfl) rfl (step_same (st9) hL hcl rfl rfl hG)
    · intro L9 α a9 u9 K9 hL hcl hA hG hS h0 h1 hK
      replace hL : L9 5 = false := hL
      have q7 : a9.tmps[7]? = some (.pointer (some ⟨B1_2, 0, none⟩)) := (h0 7 (by kernel_rfl)).trans rfl
      have s7 := Rega.eval_of q7
      have e0 : R9 L9 α 1999 = row (B1_2) 191 #[.int .i32 loc, .int .u32 src, .int .u32 (n : Int)] := rfl
      have hr := hG.rowAt 1999 (act_base 1999 rfl) e0
      have c0 : u9.cell? ⟨B1_2, 0, none⟩ = some (.int .i32 loc) := hr.cell rfl
      have c1 : u9.cell? ⟨B1_2, 1, none⟩ = some (.int .u32 src) := hr.cell rfl
      have c2 : u9.cell? ⟨B1_2, 2, none⟩ = some (.int .u32 (n : Int)) := hr.cell rfl
      clear hr e0
      go_simp
      exact hK _ α _ (fun _ _ => rfl) rfl (step_same (st9) hL hcl rfl rfl hG)
    · intro L9 α a9 u9 K9 hL hcl hA hG hS h0 h1 hK
      replace hL : L9 6 = false := hL
      have q46 : a9.tmps[46]? = some (.map (some mp)) := hS 3 46 (by decide) rfl (by show 46 < 60; decide)
      have s46 := Rega.eval_of q46
      have q47 : a9.tmps[47]? = some (.string nm) := hS 4 47 (by decide) rfl (by show 47 < 60; decide)
      have s47 := Rega.eval_of q47
      have q48 : a9.tmps[48]? = some (.agg #[.int .i32 loc, .int .u32 src, .int .u32 (n : Int)]) := hS 5 48 (by decide) rfl (by show 48 < 60; decide)
      have s48 := Rega.eval_of q48
      have e0 : R9 L9 α 2999 = ((mp, .map es k) : Rw) := by
        show rIimpF13T2999 pb PC n src mp es k loc nm B1_2 nd4 nd5 L9 α = _
        unfold rIimpF13T2999
        rw [if_neg (by rw [hL]; decide)]
      have hm := hG.mapAt 2999 (act_base 2999 rfl) e0
      have hu9 := Base.run_update_new (P := Tryz.prog) u9 Tryz.underlying138 Tryz.underlying9 hm nm (.agg #[.int .i32 loc, .int .u32 src, .int .u32 (n : Int)]) (by first | assumption | kernel_rfl)
      have E0 := Lib.hid e0
      clear e0 hm
      go_simp
      have e1 : R9 (Rega.ran L9 6) α 2999 = ((mp, .map (es.push ⟨.string nm, .agg #[.int .i32 loc, .int .u32 src, .int .u32 (n : Int)], k⟩) (k + 1)) : Rw) := by
        show rIimpF13T2999 pb PC n src mp es k loc nm B1_2 nd4 nd5 (Rega.ran L9 6) α = _
        unfold rIimpF13T2999
        rw [if_pos (show Rega.ran L9 6 6 = true from rfl)]
      exact hK _ α _ (fun _ _ => rfl) rfl (step_setMap (st9) hL hcl rfl 2999 rfl (act_base 2999 rfl) E0.out (e1.trans rfl) hG)
  clear st9
  intro α u hG
  have e0 : R9 (fun k => decide (k < 7)) α 999 = row (pb) 182 (PC.setIfInBounds 106 (.slice (some ⟨nd4, 0, none⟩) (n + 1) (n + 1 + nd5))) := rfl
  have e1 : R9 (fun k => decide (k < 7)) α 1999 = row (B1_2) 191 #[.int .i32 loc, .int .u32 src, .int .u32 (n : Int)] := rfl
  have e2 : R9 (fun k => decide (k < 7)) α 2999 = ((mp, .map (es.push ⟨.string nm, .agg #[.int .i32 loc, .int .u32 src, .int .u32 (n : Int)], k⟩) (k + 1)) : Rw) := by
    show rIimpF13T2999 pb PC n src mp es k loc nm B1_2 nd4 nd5 (fun k => decide (k < 7)) α = _
    unfold rIimpF13T2999
    rw [if_pos (by decide)]
  have hO : Own w0 u [row (pb) 182 (PC.setIfInBounds 106 (.slice (some ⟨nd4, 0, none⟩) (n + 1) (n + 1 + nd5))), row (B1_2) 191 #[.int .i32 loc, .int .u32 src, .int .u32 (n : Int)], ((mp, .map (es.push ⟨.string nm, .agg #[.int .i32 loc, .int .u32 src, .int .u32 (n : Int)], k⟩) (k + 1)) : Rw)] X9_12 := (hG.list [999, 1999, 2999] (by decide) (act_all (by decide))).conv (by
    show [R9 (fun k => decide (k < 7)) α 999, R9 (fun k => decide (k < 7)) α 1999, R9 (fun k => decide (k < 7)) α 2999] = _
    rw [e0, e1, e2])
  clear hG e0 e1 e2 R9
  generalize hfr : Rega.frameAt _ _ _ _ _ = fr
  have hdf : fr = ⟨#[.pointer (some ⟨pb, 0, none⟩), .agg #[.int .i32 loc], .string nm, undef, .pointer (some ⟨B1, 0, none⟩), undef, .pointer (some ⟨B1_1, 0, none⟩), .pointer (some ⟨B1_2, 0, none⟩), .bool false, .tuple #[.agg #[.int .i32 0, .int .u32 0, .int .u32 0], .bool false], .pointer (some ⟨pb, 0, none⟩), .pointer (some ⟨pb, 0, none⟩), .pointer (some ⟨pb, 117, none⟩), .map (some mp), .string nm, .tuple #[.agg #[.int .i32 0, .int .u32 0, .int .u32 0], .bool false], .agg #[.int .i32 0, .int .u32 0, .int .u32 0], .bool false, .bool false, .bool true, .agg #[.int .i32 loc], .pointer (some ⟨B1_2, 0, none⟩), .pointer (some ⟨pb, 0, none⟩), .string nm, .agg #[.int .u32 src, .int .u32 (n : Int)], .pointer (some ⟨B1_2, 1, none⟩), .pointer (some ⟨pb, 0, none⟩), .pointer (some ⟨pb, 0, none⟩), .pointer (some ⟨pb, 187, none⟩), .pointer (some ⟨ms, 0, none⟩), .pointer (some ⟨pb, 0, none⟩), .pointer (some ⟨pb, 0, none⟩), .pointer (some ⟨pb, 187, none⟩), .pointer (some ⟨ms, 0, none⟩), .pointer (some ⟨ms, 0, none⟩), .pointer (some ⟨ms, 5, none⟩), .slice (some ⟨gb, 0, none⟩) m (m + cg), .pointer (some ⟨B1_2, 1, none⟩), .agg #[.int .u32 src, .int .u32 (n : Int)], .slice (some ⟨nd9, 0, none⟩) 1 1, .slice (some ⟨nd10, 0, none⟩) (m + 1) (m + 1 + nd11), .pointer (some ⟨ms, 0, none⟩), .pointer (some ⟨ms, 5, none⟩), .pointer (some ⟨pb, 0, none⟩), .pointer (some ⟨pb, 0, none⟩), .pointer (some ⟨pb, 117, none⟩), .map (some mp), .string nm, .agg #[.int .i32 loc, .int .u32 src, .int .u32 (n : Int)], undef, undef, undef, undef, undef, undef, undef, undef, undef, undef, undef], []⟩ := by rw [← hfr]; kernel_rfl
  clear hfr
  subst hdf
  clear α
  subst hX9_12
  have hN : Own w0 u [row (pb) 182 (PC.setIfInBounds 106 (.slice (some ⟨nd4, 0, none⟩) (n + 1) (n + 1 + nd5))), row (B1_2) 191 #[.int .i32 loc, .int .u32 src, .int .u32 (n : Int)], ((mp, .map (es.push ⟨.string nm, .agg #[.int .i32 loc, .int .u32 src, .int .u32 (n : Int)], k⟩) (k + 1)) : Rw), row (ms) 194 (MC.setIfInBounds 5 (.slice (some ⟨nd10, 0, none⟩) (m + 1) (m + 1 + nd11))), row (nd10) 58 (full refZ (G ++ [.int .u32 src, .int .u32 (n : Int)]) (nd11)), row (nd9) 58 #[.int .u32 src, .int .u32 (n : Int)], row (nd4) 201 (full symZ (symL (st ++ [syk nm 27])) nd5), row (B1_1) 29 #[.nilIface, .int .i32 0], row (B1) 27 #[.int .i32 loc]] X := hO.back HL.out HX.out [2, 3, 4, 5, 6, 7] (by decide) (by decide)
  clear hO HL HX
  have hO := hN
  clear hN
  obtain ⟨c9_1_0, c9_1_1, c9_1_2, lt9_1, y9_1, -⟩ := hO.k3 1 rfl
  obtain ⟨c9_5_0, c9_5_1, lt9_5, y9_5, -⟩ := hO.k2 5 rfl
  obtain ⟨c9_7_0, c9_7_1, lt9_7, y9_7, -⟩ := hO.k2 7 rfl
  obtain ⟨c9_8_0, lt9_8, y9_8, -⟩ := hO.k1 8 rfl
  have HO := Lib.hid hO
  clear hO
  go_wp2_with (first | (with_reducible refine Own.stay (fn := Tryz.f51) ?_) | (at_lookup; refine wpList_lookup_no rfl _ _ 138 true rfl 9 191 (by kernel_rfl) (by kernel_rfl) (((HO.out.mapAt 2 rfl).alloc _).alloc _) rfl _ rfl (.agg #[.int .i32 0, .int .u32 0, .int .u32 0]) (Tryz.zeroValue191 _) hno ?_))
  try with_reducible refine Own.Stay.mk ?_
  have hO := HO.out
  clear HO c9_1_0 c9_1_1 c9_1_2 lt9_1 y9_1 c9_5_0 c9_5_1 lt9_5 y9_5 c9_7_0 c9_7_1 lt9_7 y9_7 c9_8_0 lt9_8 y9_8
  have hL := hO.apart
  have hX := hO.apartX
  have HL := Lib.hid hL
  have HX := Lib.hid hX
  clear hL hX
  have hP9 := hO.pick [0, 6] (by decide)
  have h9_hn : (st ++ [syk nm 27]).length = (n + 1) := (by simp [hn])
  have h9_hnb : (n + 1) ≤ 4000000 := (by omega)
  have h9_hu : ∃ s, (st ++ [syk nm 27])[n]? = some s ∧ s.uc < 4294967295 := ⟨syk nm 27, by rw [List.getElem?_append_right (by omega), hn]; simp, (by show 0 < _; decide)⟩
  have T9 := useG pb (PC.setIfInBounds 106 (.slice (some ⟨nd4, 0, none⟩) (n + 1) ((n + 1) + nd5))) nd4 nd5 (st ++ [syk nm 27]) (n + 1) src n _ _ _ hP9 (get_other hk350 (by omega) _) (get_other hk32 (by omega) _) (get_other hk105 (by omega) _) (get_set hk106 _) h9_hn h9_hnb h9_hu
  refine Calls.mono T9 ?_
  clear hP9 T9 h9_hn h9_hnb h9_hu
  rintro e u13 ⟨rfl, hQ⟩
  have hN : Own w0 u13 [row (pb) 182 (PC.setIfInBounds 106 (.slice (some ⟨nd4, 0, none⟩) (n + 1) ((n + 1) + nd5))), row (nd4) 201 (full symZ (symL (bump (st ++ [syk nm 27]) n)) nd5), row (B1_2) 191 #[.int .i32 loc, .int .u32 src, .int .u32 (n : Int)], ((mp, .map (es.push ⟨.string nm, .agg #[.int .i32 loc, .int .u32 src, .int .u32 (n : Int)], k⟩) (k + 1)) : Rw), row (ms) 194 (MC.setIfInBounds 5 (.slice (some ⟨nd10, 0, none⟩) (m + 1) (m + 1 + nd11))), row (nd10) 58 (full refZ (G ++ [.int .u32 src, .int .u32 (n : Int)]) (nd11)), row (nd9) 58 #[.int .u32 src, .int .u32 (n : Int)], row (B1_1) 29 #[.nilIface, .int .i32 0], row (B1) 27 #[.int .i32 loc]] X := hQ.back HL.out HX.out [1, 2, 3, 4, 5, 7, 8] (by decide) (by decide)
  clear hQ HL HX hO
  have hO := hN
  clear hN
  obtain ⟨c9_2_0, c9_2_1, c9_2_2, lt9_2, y9_2, -⟩ := hO.k3 2 rfl
  obtain ⟨c9_6_0, c9_6_1, lt9_6, y9_6, -⟩ := hO.k2 6 rfl
  obtain ⟨c9_7_0, c9_7_1, lt9_7, y9_7, -⟩ := hO.k2 7 rfl
  obtain ⟨c9_8_0, lt9_8, y9_8, -⟩ := hO.k1 8 rfl
  have HO := Lib.hid hO
  clear hO
  go_wp2_with (first | (with_reducible refine Own.stay (fn := Tryz.f51) ?_) | (at_lookup; refine wpList_lookup_no rfl _ _ 138 true rfl 9 191 (by kernel_rfl) (by kernel_rfl) (((HO.out.mapAt 2 rfl).alloc _).alloc _) rfl _ rfl (.agg #[.int .i32 0, .int .u32 0, .int .u32 0]) (Tryz.zeroValue191 _) hno ?_))
  try with_reducible refine Own.Stay.mk ?_
  have hO := HO.out
  clear HO c9_2_0 c9_2_1 c9_2_2 lt9_2 y9_2 c9_6_0 c9_6_1 lt9_6 y9_6 c9_7_0 c9_7_1 lt9_7 y9_7 c9_8_0 lt9_8 y9_8
  generalize hW : World.alloc _ _ = W15
  have hN : Own w0 W15 [row (u13.heap.size) 60 #[.int .u32 src, .int .u32 (n : Int), .bool false, .bool false, .bool false], row (pb) 182 (PC.setIfInBounds 106 (.slice (some ⟨nd4, 0, none⟩) (n + 1) ((n + 1) + nd5))), row (nd4) 201 (full symZ (symL (bump (st ++ [syk nm 27]) n)) nd5), row (B1_2) 191 #[.int .i32 loc, .int .u32 src, .int .u32 (n : Int)], ((mp, .map (es.push ⟨.string nm, .agg #[.int .i32 loc, .int .u32 src, .int .u32 (n : Int)], k⟩) (k + 1)) : Rw), row (ms) 194 (MC.setIfInBounds 5 (.slice (some ⟨nd10, 0, none⟩) (m + 1) (m + 1 + nd11))), row (nd10) 58 (full refZ (G ++ [.int .u32 src, .int .u32 (n : Int)]) (nd11)), row (nd9) 58 #[.int .u32 src, .int .u32 (n : Int)], row (B1_1) 29 #[.iface 56 (.pointer (some ⟨u13.heap.size, 0, none⟩)), .int .i32 loc], row (B1) 27 #[.int .i32 loc]] X := by
    rw [← hW]
    exact (((hO).set 7 rfl 0 _).set 7 rfl 1 _).alloc' _ (u13.heap.size) (by simp)
  clear hW hO
  generalize u13.heap.size = B14 at hN ⊢
  have hO := hN
  clear hN
  have z9_8_0 : W15.cell? ⟨B1_1, 0, none⟩ = some (.iface 56 (.pointer (some ⟨B14, 0, none⟩))) := hO.cell 8 rfl 0 rfl
  have z9_8_1 : W15.cell? ⟨B1_1, 1, none⟩ = some (.int .i32 loc) := hO.cell 8 rfl 1 rfl
  refine bodyPost_ret (v := .agg #[.iface 56 (.pointer (some ⟨B14, 0, none⟩)), .int .i32 loc]) ?_ rfl ⟨B14, nd4, nd5, nd10, nd11, rfl, hO.sub [1, 2, 4, 5, 6, 0] (by decide)⟩
  simp [results, Tryz.results51, go_sem, z9_8_0, z9_8_1]
def rcallF11E (pb : Nat) (PC : Array Value) (sb : Nat) (c : Nat) (st : List Sy) (n : Nat) (src : Int) (mp : Nat) (es : Array MapEntry) (k : Nat) (ms : Nat) (MC : Array Value) (gb : Nat) (cg : Nat) (G : List Value) (m : Nat) (loc : Int) (nm : ByteArray) (sx : Nat) (ln : Nat) (cp : Nat) (B1_1 : Nat) (B1 : Nat) : Nat → Rega.Atoms → Value
  | 0, α => .agg #[.int .i32 loc]
  | 1, α => .pointer (some ⟨pb, 0, none⟩)
  | 2, α => .agg #[.int .i32 loc]
  | 3, α => .string nm
  | 4, α => .agg #[.iface 56 (.pointer (some ⟨α 4, 0, none⟩)), .int .i32 loc]
  | 5, α => .slice (some ⟨sx, 0, none⟩) ln cp
  | 6, α => .agg #[.iface 56 (.pointer (some ⟨α 4, 0, none⟩)), .int .i32 loc, .slice (some ⟨sx, 0, none⟩) ln cp, .int .i32 0, .int .u8 0, .int .u8 0, .bool false, .bool false]
  | 7, α => .pointer (some ⟨α 7, 0, none⟩)
  | 8, α => .iface 284 (.pointer (some ⟨α 7, 0, none⟩))
  | 9, α => .agg #[.iface 284 (.pointer (some ⟨α 7, 0, none⟩)), .int .i32 loc]
  | 10, α => undef
  | _, _ => undef
def rcallF11Anc : Nat → List Nat
  | 4 => [1, 2, 3]
  | 6 => [1, 2, 3, 4, 5]
  | 7 => [1, 2, 3, 4, 5, 6]
  | 8 => [1, 2, 3, 4, 5, 6, 7]
  | 9 => [0, 1, 2, 3, 4, 5, 6, 7, 8]
  | 10 => [0, 1, 2, 3, 4, 5, 6, 7, 8, 9]
  | _ => []
def rcallF11Trn : Nat → List Nat
  | 4 => [2999, 3999, 4999, 5999, 6999]
  | 10 => [999]
  | _ => []
def rcallF11Cnt : List (Nat × Nat) := [(4, 1), (7, 1)]
def rcallF11T999 (pb : Nat) (PC : Array Value) (sb : Nat) (c : Nat) (st : List Sy) (n : Nat) (src : Int) (mp : Nat) (es : Array MapEntry) (k : Nat) (ms : Nat) (MC : Array Value) (gb : Nat) (cg : Nat) (G : List Value) (m : Nat) (loc : Int) (nm : ByteArray) (sx : Nat) (ln : Nat) (cp : Nat) (B1_1 : Nat) (B1 : Nat) (L9 : Nat → Bool) (α : Rega.Atoms) : Rw := if L9 10 = true then row (B1_1) 29 #[.iface 284 (.pointer (some ⟨α 7, 0, none⟩)), .int .i32 loc] else row (B1_1) 29 #[.nilIface, .int .i32 0]
def rcallF11T2999 (pb : Nat) (PC : Array Value) (sb : Nat) (c : Nat) (st : List Sy) (n : Nat) (src : Int) (mp : Nat) (es : Array MapEntry) (k : Nat) (ms : Nat) (MC : Array Value) (gb : Nat) (cg : Nat) (G : List Value) (m : Nat) (loc : Int) (nm : ByteArray) (sx : Nat) (ln : Nat) (cp : Nat) (B1_1 : Nat) (B1 : Nat) (L9 : Nat → Bool) (α : Rega.Atoms) : Rw := if L9 4 = true then row (pb) 182 (PC.setIfInBounds 106 (.slice (some ⟨α 1004, 0, none⟩) (n + 1) (n + 1 + (α 2004)))) else row (pb) 182 PC
def rcallF11T3999 (pb : Nat) (PC : Array Value) (sb : Nat) (c : Nat) (st : List Sy) (n : Nat) (src : Int) (mp : Nat) (es : Array MapEntry) (k : Nat) (ms : Nat) (MC : Array Value) (gb : Nat) (cg : Nat) (G : List Value) (m : Nat) (loc : Int) (nm : ByteArray) (sx : Nat) (ln : Nat) (cp : Nat) (B1_1 : Nat) (B1 : Nat) (L9 : Nat → Bool) (α : Rega.Atoms) : Rw := if L9 4 = true then row (α 1004) 201 (full symZ (symL (bump (st ++ [syk nm 27]) n)) (α 2004)) else row (sb) 201 (full symZ (symL st) c)
def rcallF11T4999 (pb : Nat) (PC : Array Value) (sb : Nat) (c : Nat) (st : List Sy) (n : Nat) (src : Int) (mp : Nat) (es : Array MapEntry) (k : Nat) (ms : Nat) (MC : Array Value) (gb : Nat) (cg : Nat) (G : List Value) (m : Nat) (loc : Int) (nm : ByteArray) (sx : Nat) (ln : Nat) (cp : Nat) (B1_1 : Nat) (B1 : Nat) (L9 : Nat → Bool) (α : Rega.Atoms) : Rw := if L9 4 = true then ((mp, .map (es.push ⟨.string nm, .agg #[.int .i32 loc, .int .u32 src, .int .u32 (n : Int)], k⟩) (k + 1)) : Rw) else ((mp, .map es k) : Rw)
def rcallF11T5999 (pb : Nat) (PC : Array Value) (sb : Nat) (c : Nat) (st : List Sy) (n : Nat) (src : Int) (mp : Nat) (es : Array MapEntry) (k : Nat) (ms : Nat) (MC : Array Value) (gb : Nat) (cg : Nat) (G : List Value) (m : Nat) (loc : Int) (nm : ByteArray) (sx : Nat) (ln : Nat) (cp : Nat) (B1_1 : Nat) (B1 : Nat) (L9 : Nat → Bool) (α : Rega.Atoms) : Rw := if L9 4 = true then row (ms) 194 (MC.setIfInBounds 5 (.slice (some ⟨α 3004, 0, none⟩) (m + 1) (m + 1 + (α 4004)))) else row (ms) 194 MC
def rcallF11T6999 (pb : Nat) (PC : Array Value) (sb : Nat) (c : Nat) (st : List Sy) (n : Nat) (src : Int) (mp : Nat) (es : Array MapEntry) (k : Nat) (ms : Nat) (MC : Array Value) (gb : Nat) (cg : Nat) (G : List Value) (m : Nat) (loc : Int) (nm : ByteArray) (sx : Nat) (ln : Nat) (cp : Nat) (B1_1 : Nat) (B1 : Nat) (L9 : Nat → Bool) (α : Rega.Atoms) : Rw := if L9 4 = true then row (α 3004) 58 (full refZ (G ++ [.int .u32 src, .int .u32 (n : Int)]) (α 4004)) else row (gb) 58 (full refZ G cg)
def rcallF11R (pb : Nat) (PC : Array Value) (sb : Nat) (c : Nat) (st : List Sy) (n : Nat) (src : Int) (mp : Nat) (es : Array MapEntry) (k : Nat) (ms : Nat) (MC : Array Value) (gb : Nat) (cg : Nat) (G : List Value) (m : Nat) (loc : Int) (nm : ByteArray) (sx : Nat) (ln : Nat) (cp : Nat) (B1_1 : Nat) (B1 : Nat) (L9 : Nat → Bool) (α : Rega.Atoms) (ix9 : Nat) : Rw := if ix9 = 999 then rcallF11T999 pb PC sb c st n src mp es k ms MC gb cg G m loc nm sx ln cp B1_1 B1 L9 α else if ix9 = 1999 then row (B1) 27 #[.int .i32 loc] else if ix9 = 2999 then rcallF11T2999 pb PC sb c st n src mp es k ms MC gb cg G m loc nm sx ln cp B1_1 B1 L9 α else if ix9 = 3999 then rcallF11T3999 pb PC sb c st n src mp es k ms MC gb cg G m loc nm sx ln cp B1_1 B1 L9 α else if ix9 = 4999 then rcallF11T4999 pb PC sb c st n src mp es k ms MC gb cg G m loc nm sx ln cp B1_1 B1 L9 α else if ix9 = 5999 then rcallF11T5999 pb PC sb c st n src mp es k ms MC gb cg G m loc nm sx ln cp B1_1 B1 L9 α else if ix9 = 6999 then rcallF11T6999 pb PC sb c st n src mp es k ms MC gb cg G m loc nm sx ln cp B1_1 B1 L9 α else if ix9 = 4 then row (α 4) 60 #[.int .u32 src, .int .u32 (n : Int), .bool false, .bool false, .bool false] else if ix9 = 7 then row (α 7) 288 #[.iface 56 (.pointer (some ⟨α 4, 0, none⟩)), .int .i32 loc, .slice (some ⟨sx, 0, none⟩) ln cp, .int .i32 0, .int .u8 0, .int .u8 0, .bool false, .bool false] else (0, .map #[] 0)
theorem rcallF11_he (pb : Nat) (PC : Array Value) (sb : Nat) (c : Nat) (st : List Sy) (n : Nat) (src : Int) (mp : Nat) (es : Array MapEntry) (k : Nat) (ms : Nat) (MC : Array Value) (gb : Nat) (cg : Nat) (G : List Value) (m : Nat) (loc : Int) (nm : ByteArray) (sx : Nat) (ln : Nat) (cp : Nat) (B1_1 : Nat) (B1 : Nat) : ∀ kk α α', (∀ j, (j % 1000 = kk ∨ j % 1000 ∈ rcallF11Anc kk) → α j = α' j) → rcallF11E pb PC sb c st n src mp es k ms MC gb cg G m loc nm sx ln cp B1_1 B1 kk α = rcallF11E pb PC sb c st n src mp es k ms MC gb cg G m loc nm sx ln cp B1_1 B1 kk α' := by
  intro kk α α' h
  match kk with
  | 0 => rfl
  | 1 => rfl
  | 2 => rfl
  | 3 => rfl
  | 4 => simp only [rcallF11E, h 4 (Or.inl rfl)]
  | 5 => rfl
  | 6 => simp only [rcallF11E, h 4 (Or.inr (by decide))]
  | 7 => simp only [rcallF11E, h 7 (Or.inl rfl)]
  | 8 => simp only [rcallF11E, h 7 (Or.inr (by decide))]
  | 9 => simp only [rcallF11E, h 7 (Or.inr (by decide))]
  | 10 => rfl
  | n + 11 => rfl
theorem rcallF11_st (pb : Nat) (PC : Array Value) (sb : Nat) (c : Nat) (st : List Sy) (n : Nat) (src : Int) (mp : Nat) (es : Array MapEntry) (k : Nat) (ms : Nat) (MC : Array Value) (gb : Nat) (cg : Nat) (G : List Value) (m : Nat) (loc : Int) (nm : ByteArray) (sx : Nat) (ln : Nat) (cp : Nat) (B1_1 : Nat) (B1 : Nat) : Stable rcallF11Cnt 7 rcallF11Anc rcallF11Trn (rcallF11R pb PC sb c st n src mp es k ms MC gb cg G m loc nm sx ln cp B1_1 B1) := by
  intro k9 L9 α α' ix9 hk hcl hα hact ht
  have hp := act_places hact
  replace hp : ix9 ∈ [999, 1999, 2999, 3999, 4999, 5999, 6999, 4, 7] := hp
  simp only [List.mem_cons, List.not_mem_nil, or_false] at hp
  rcases hp with rfl | rfl | rfl | rfl | rfl | rfl | rfl | rfl | rfl
  · show rcallF11T999 pb PC sb c st n src mp es k ms MC gb cg G m loc nm sx ln cp B1_1 B1 (Rega.ran L9 k9) α' = rcallF11T999 pb PC sb c st n src mp es k ms MC gb cg G m loc nm sx ln cp B1_1 B1 L9 α
    unfold rcallF11T999
    have n10 : 10 ≠ k9 := fun e => ht (by rw [← e]; decide)
    rw [ran_ne n10]
    by_cases e10 : L9 10 = true
    · first | rw [if_pos e10, if_pos e10] | rw [if_pos e10]
      try simp only [hα 7 (ne_ran hk (hcl 10 e10 7 (by decide)))]
    first | rw [if_neg e10, if_neg e10] | rw [if_neg e10]
  · rfl
  · show rcallF11T2999 pb PC sb c st n src mp es k ms MC gb cg G m loc nm sx ln cp B1_1 B1 (Rega.ran L9 k9) α' = rcallF11T2999 pb PC sb c st n src mp es k ms MC gb cg G m loc nm sx ln cp B1_1 B1 L9 α
    unfold rcallF11T2999
    have n4 : 4 ≠ k9 := fun e => ht (by rw [← e]; decide)
    rw [ran_ne n4]
    by_cases e4 : L9 4 = true
    · first | rw [if_pos e4, if_pos e4] | rw [if_pos e4]
      try simp only [hα 1004 (ne_ran hk e4), hα 2004 (ne_ran hk e4)]
    first | rw [if_neg e4, if_neg e4] | rw [if_neg e4]
  · show rcallF11T3999 pb PC sb c st n src mp es k ms MC gb cg G m loc nm sx ln cp B1_1 B1 (Rega.ran L9 k9) α' = rcallF11T3999 pb PC sb c st n src mp es k ms MC gb cg G m loc nm sx ln cp B1_1 B1 L9 α
    unfold rcallF11T3999
    have n4 : 4 ≠ k9 := fun e => ht (by rw [← e]; decide)
    rw [ran_ne n4]
    by_cases e4 : L9 4 = true
    · first | rw [if_pos e4, if_pos e4] | rw [if_pos e4]
      try simp only [hα 1004 (ne_ran hk e4), hα 2004 (ne_ran hk e4)]
    first | rw [if_neg e4, if_neg e4] | rw [if_neg e4]
  · show rcallF11T4999 pb PC sb c st n src mp es k ms MC gb cg G m loc nm sx ln cp B1_1 B1 (Rega.ran L9 k9) α' = rcallF11T4999 pb PC sb c st n src mp es k ms MC gb cg G m loc nm sx ln cp B1_1 B1 L9 α
    unfold rcallF11T4999
    have n4 : 4 ≠ k9 := fun e => ht (by rw [← e]; decide)
    rw [ran_ne n4]
  · show rcallF11T5999 pb PC sb c st n src mp es k ms MC gb cg G m loc nm sx ln cp B1_1 B1 (Rega.ran L9 k9) α' = rcallF11T5999 pb PC sb c st n src mp es k ms MC gb cg G m loc nm sx ln cp B1_1 B1 L9 α
    unfold rcallF11T5999
    have n4 : 4 ≠ k9 := fun e => ht (by rw [← e]; decide)
    rw [ran_ne n4]
    by_cases e4 : L9 4 = true
    · first | rw [if_pos e4, if_pos e4] | rw [if_pos e4]
      try simp only [hα 3004 (ne_ran hk e4), hα 4004 (ne_ran hk e4)]
    first | rw [if_neg e4, if_neg e4] | rw [if_neg e4]
  · show rcallF11T6999 pb PC sb c st n src mp es k ms MC gb cg G m loc nm sx ln cp B1_1 B1 (Rega.ran L9 k9) α' = rcallF11T6999 pb PC sb c st n src mp es k ms MC gb cg G m loc nm sx ln cp B1_1 B1 L9 α
    unfold rcallF11T6999
    have n4 : 4 ≠ k9 := fun e => ht (by rw [← e]; decide)
    rw [ran_ne n4]
    by_cases e4 : L9 4 = true
    · first | rw [if_pos e4, if_pos e4] | rw [if_pos e4]
      try simp only [hα 3004 (ne_ran hk e4), hα 4004 (ne_ran hk e4)]
    first | rw [if_neg e4, if_neg e4] | rw [if_neg e4]
  · have e0 : L9 4 = true := act_lt hact (by decide)
    show row (α' 4) 60 #[.int .u32 src, .int .u32 (n : Int), .bool false, .bool false, .bool false] = row (α 4) 60 #[.int .u32 src, .int .u32 (n : Int), .bool false, .bool false, .bool false]
    simp only [hα 4 (ne_ran hk e0)]
  · have e0 : L9 7 = true := act_lt hact (by decide)
    show row (α' 7) 288 #[.iface 56 (.pointer (some ⟨α' 4, 0, none⟩)), .int .i32 loc, .slice (some ⟨sx, 0, none⟩) ln cp, .int .i32 0, .int .u8 0, .int .u8 0, .bool false, .bool false] = row (α 7) 288 #[.iface 56 (.pointer (some ⟨α 4, 0, none⟩)), .int .i32 loc, .slice (some ⟨sx, 0, none⟩) ln cp, .int .i32 0, .int .u8 0, .int .u8 0, .bool false, .bool false]
    simp only [hα 4 (ne_ran hk (hcl 7 e0 4 (by decide))), hα 7 (ne_ran hk e0)]
def callF1Post (pb : Nat) (PC : Array Value) (sb c : Nat) (st : List Sy) (n : Nat) (src : Int) (mp : Nat) (es : Array MapEntry) (k ms : Nat) (MC : Array Value) (gb cg : Nat) (G : List Value) (m : Nat) (loc : Int) (nm : ByteArray) (sx ln cp : Nat) (w0 : World) (X : Nat → Obj → Prop) (e : Ending) (w' : World) : Prop :=
  ∃ ca : Nat, ∃ b : Nat, ∃ sb2 : Nat, ∃ c2 : Nat, ∃ gb2 : Nat, ∃ cg2 : Nat, e = .returned (.agg #[.iface 284 (.pointer (some ⟨ca, 0, none⟩)), .int .i32 loc]) ∧ Own w0 w' [row (pb) 182 (PC.setIfInBounds 106 (.slice (some ⟨sb2, 0, none⟩) (n + 1) (n + 1 + c2))), row (sb2) 201 (full symZ (symL (bump (st ++ [syk nm 27]) n)) c2), ((mp, .map (es.push ⟨.string nm, .agg #[.int .i32 loc, .int .u32 src, .int .u32 (n : Int)], k⟩) (k + 1)) : Rw), row (ms) 194 (MC.setIfInBounds 5 (.slice (some ⟨gb2, 0, none⟩) (m + 1) (m + 1 + cg2))), row (gb2) 58 (full refZ (G ++ [.int .u32 src, .int .u32 (n : Int)]) cg2), row (b) 60 #[.int .u32 src, .int .u32 (n : Int), .bool false, .bool false, .bool false], row (ca) 288 #[.iface 56 (.pointer (some ⟨b, 0, none⟩)), .int .i32 loc, .slice (some ⟨sx, 0, none⟩) ln cp, .int .i32 0, .int .u8 0, .int .u8 0, .bool false, .bool false]] X
set_option maxRecDepth 100000 in
set_option maxHeartbeats 1000000 in
theorem callF1 (pb : Nat) (PC : Array Value) (sb c : Nat) (st : List Sy) (n : Nat) (src : Int) (mp : Nat) (es : Array MapEntry) (k ms : Nat) (MC : Array Value) (gb cg : Nat) (G : List Value) (m : Nat) (loc : Int) (nm : ByteArray) (sx ln cp : Nat) (w0 w : World) (X : Nat → Obj → Prop) (hO : Own w0 w [row (pb) 182 PC, row (sb) 201 (full symZ (symL st) c), ((mp, .map es k) : Rw), row (ms) 194 MC, row (gb) 58 (full refZ G cg)] X) (hk350 : PC[350]? = some (.bool false)) (hk32 : PC[32]? = some (.bool false)) (hk105 : PC[105]? = some (.pointer none)) (hk66 : PC[66]? = some (.int .u32 src)) (hk117 : PC[117]? = some (.map (some mp))) (hk187 : PC[187]? = some (.pointer (some ⟨ms, 0, none⟩))) (hk106 : PC[106]? = some (.slice (some ⟨sb, 0, none⟩) n (n + c))) (hn : st.length = n) (hnb : n ≤ 2000000) (hgen : MC[5]? = some (.slice (some ⟨gb, 0, none⟩) m (m + cg))) (hgl : G.length = m * 2) (hgm : m ≤ 2000000) (hno : Instr.findNow .string (.string nm) es.toList 0 = some none) (hg0 : w0.cell? ⟨0, 0, none⟩ = some (.int .u32 4294967295)) (hg1 : w0.cell? ⟨0, 1, none⟩ = some (.int .u32 4294967295)) :
    Calls Tryz.prog 37 #[.pointer (some ⟨pb, 0, none⟩), .agg #[.int .i32 loc], .string nm, .slice (some ⟨sx, 0, none⟩) ln cp] w (callF1Post pb PC sb c st n src mp es k ms MC gb cg G m loc nm sx ln cp w0 X) := by
  go_enter Tryz.func37, Tryz.ntmps37
  go_wp2_with (first | (with_reducible refine Own.stay (fn := Tryz.f37) ?_) | fail)
  try with_reducible refine Own.Stay.mk ?_
  generalize hW : World.alloc _ _ = W2
  have hN : Own w0 W2 [row (w.heap.size + 1) 29 #[.nilIface, .int .i32 0], row (w.heap.size) 27 #[.int .i32 loc], row (pb) 182 PC, row (sb) 201 (full symZ (symL st) c), ((mp, .map es k) : Rw), row (ms) 194 MC, row (gb) 58 (full refZ G cg)] X := by
    rw [← hW]
    exact ((hO).alloc' _ (w.heap.size) (by simp)).alloc' _ (w.heap.size + 1) (by simp)
  clear hW hO
  generalize w.heap.size + 1 = B1_1 at hN ⊢
  generalize w.heap.size = B1 at hN ⊢
  have hO := hN
  clear hN
  have st9 := rcallF11_st pb PC sb c st n src mp es k ms MC gb cg G m loc nm sx ln cp B1_1 B1
  let R9 := rcallF11R pb PC sb c st n src mp es k ms MC gb cg G m loc nm sx ln cp B1_1 B1
  refine wp_region_own (e := rcallF11E pb PC sb c st n src mp es k ms MC gb cg G m loc nm sx ln cp B1_1 B1) (anc := rcallF11Anc) (G := (fun L9 α u9 => OwnF w0 u9 (act rcallF11Cnt 7 L9) (rcallF11R pb PC sb c st n src mp es k ms MC gb cg G m loc nm sx ln cp B1_1 B1 L9 α) X)) (by kernel_rfl) (by kernel_rfl) (by kernel_rfl) (by kernel_rfl) (rcallF11_he pb PC sb c st n src mp es k ms MC gb cg G m loc nm sx ln cp B1_1 B1) ?_ (RunsAll.all ?_) ?_
  · have hp : ∀ i, act rcallF11Cnt 7 (fun _ => false) i → i ∈ [999, 1999, 2999, 3999, 4999, 5999, 6999] := by
      intro i hi
      have h9 : i % 1000 = 999 := by
        by_cases h : i % 1000 = 999
        · exact h
        · exact absurd (act_lt hi h) (by simp)
      unfold act at hi
      rw [if_pos h9] at hi
      simp only [List.mem_cons, List.not_mem_nil, or_false]
      omega
    refine hO.drew.family (fun i hi => ?_) (fun i j hi hj hij => ?_)
    · have := hp i hi
      simp only [List.mem_cons, List.not_mem_nil, or_false] at this
      rcases this with rfl | rfl | rfl | rfl | rfl | rfl | rfl <;> rfl
    · have h1 := hp i hi
      have h2 := hp j hj
      simp only [List.mem_cons, List.not_mem_nil, or_false] at h1 h2
      omega
  · refine ⟨?_, ?_, ?_, ?_, ?_, ?_, ?_, ?_, ?_, ?_, ?_, trivial⟩
    · intro L9 α a9 u9 K9 hL hcl hA hG hS h0 h1 hK
      replace hL : L9 0 = false := hL
      have q5 : a9.tmps[5]? = some (.pointer (some ⟨B1, 0, none⟩)) := (h0 5 (by kernel_rfl)).trans rfl
      have s5 := Rega.eval_of q5
      have e0 : R9 L9 α 1999 = row (B1) 27 #[.int .i32 loc] := rfl
      have hr := hG.rowAt 1999 (act_base 1999 rfl) e0
      have c0 : u9.cell? ⟨B1, 0, none⟩ = some (.int .i32 loc) := hr.cell rfl
      clear hr e0
      go_simp
      exact hK _ α _ (fun _ _ => rfl) rfl (step_same (st9) hL hcl rfl rfl hG)
    · intro L9 α a9 u9 K9 hL hcl hA hG hS h0 h1 hK
      replace hL : L9 1 = false := hL
      have q0 : a9.tmps[0]? = some (.pointer (some ⟨pb, 0, none⟩)) := (h0 0 (by kernel_rfl)).trans rfl
      have s0 := Rega.eval_of q0
      go_simp
      exact hK _ α _ (fun _ _ => rfl) rfl (step_same (st9) hL hcl rfl rfl hG)
    · intro L9 α a9 u9 K9 hL hcl hA hG hS h0 h1 hK
      replace hL : L9 2 = false := hL
      have q5 : a9.tmps[5]? = some (.pointer (some ⟨B1, 0, none⟩)) := (h0 5 (by kernel_rfl)).trans rfl
      have s5 := Rega.eval_of q5
      have e0 : R9 L9 α 1999 = row (B1) 27 #[.int .i32 loc] := rfl
      have hr := hG.rowAt 1999 (act_base 1999 rfl) e0
      have c0 : u9.cell? ⟨B1, 0, none⟩ = some (.int .i32 loc) := hr.cell rfl
      clear hr e0
      go_simp
      exact hK _ α _ (fun _ _ => rfl) rfl (step_same (st9) hL hcl rfl rfl hG)
    · intro L9 α a9 u9 K9 hL hcl hA hG hS h0 h1 hK
      replace hL : L9 3 = false := hL
      have q2 : a9.tmps[2]? = some (.string nm) := (h0 2 (by kernel_rfl)).trans rfl
      have s2 := Rega.eval_of q2
      go_simp
      exact hK _ α _ (fun _ _ => rfl) rfl (step_same (st9) hL hcl rfl rfl hG)
    · intro L9 α a9 u9 K9 hL hcl hA hG hS h0 h1 hK
      replace hL : L9 4 = false := hL
      have q10 : a9.tmps[10]? = some (.pointer (some ⟨pb, 0, none⟩)) := hS 1 10 (by decide) rfl (by show 10 < 19; decide)
      have s10 := Rega.eval_of q10
      have q11 : a9.tmps[11]? = some (.agg #[.int .i32 loc]) := hS 2 11 (by decide) rfl (by show 11 < 19; decide)
      have s11 := Rega.eval_of q11
      have q12 : a9.tmps[12]? = some (.string nm) := hS 3 12 (by decide) rfl (by show 12 < 19; decide)
      have s12 := Rega.eval_of q12
      go_simp
      have e0 : R9 L9 α 2999 = row (pb) 182 PC := by
        show rcallF11T2999 pb PC sb c st n src mp es k ms MC gb cg G m loc nm sx ln cp B1_1 B1 L9 α = _
        unfold rcallF11T2999
        rw [if_neg (by rw [hL]; decide)]
      have e1 : R9 L9 α 3999 = row (sb) 201 (full symZ (symL st) c) := by
        show rcallF11T3999 pb PC sb c st n src mp es k ms MC gb cg G m loc nm sx ln cp B1_1 B1 L9 α = _
        unfold rcallF11T3999
        rw [if_neg (by rw [hL]; decide)]
      have e2 : R9 L9 α 4999 = ((mp, .map es k) : Rw) := by
        show rcallF11T4999 pb PC sb c st n src mp es k ms MC gb cg G m loc nm sx ln cp B1_1 B1 L9 α = _
        unfold rcallF11T4999
        rw [if_neg (by rw [hL]; decide)]
      have e3 : R9 L9 α 5999 = row (ms) 194 MC := by
        show rcallF11T5999 pb PC sb c st n src mp es k ms MC gb cg G m loc nm sx ln cp B1_1 B1 L9 α = _
        unfold rcallF11T5999
        rw [if_neg (by rw [hL]; decide)]
      have e4 : R9 L9 α 6999 = row (gb) 58 (full refZ G cg) := by
        show rcallF11T6999 pb PC sb c st n src mp es k ms MC gb cg G m loc nm sx ln cp B1_1 B1 L9 α = _
        unfold rcallF11T6999
        rw [if_neg (by rw [hL]; decide)]
      have hM : ∀ i, i ∈ [2999, 3999, 4999, 5999, 6999] → act rcallF11Cnt 7 L9 i := by
        intro i hi
        simp only [List.mem_cons, List.not_mem_nil, or_false] at hi
        rcases hi with rfl | rfl | rfl | rfl | rfl
        · exact act_base 2999 rfl
        · exact act_base 3999 rfl
        · exact act_base 4999 rfl
        · exact act_base 5999 rfl
        · exact act_base 6999 rfl
      have hP : Own w0 u9 [row (pb) 182 PC, row (sb) 201 (full symZ (symL st) c), ((mp, .map es k) : Rw), row (ms) 194 MC, row (gb) 58 (full refZ G cg)] _ := (hG.pick [2999, 3999, 4999, 5999, 6999] (by decide) hM).conv (by
        show [R9 L9 α 2999, R9 L9 α 3999, R9 L9 α 4999, R9 L9 α 5999, R9 L9 α 6999] = _
        rw [e0, e1, e2, e3, e4])
      clear e0 e1 e2 e3 e4 hM
      refine Calls.mono (impF1 pb PC sb c st n src mp es k ms MC gb cg G m loc nm _ _ _ hP hk350 hk32 hk105 hk66 hk117 hk187 hk106 hn hnb hgen hgl hgm hno hg0 hg1) ?_
      rintro e9 u1 ⟨b0, b1, b2, b3, b4, rfl, hQ⟩
      obtain ⟨α', hα'⟩ : ∃ α' : Rega.Atoms, α' = (fun j => if j = 4 then b0 else if j = 1004 then b1 else if j = 2004 then b2 else if j = 3004 then b3 else if j = 4004 then b4 else α j) := ⟨_, rfl⟩
      have f0 : R9 (Rega.ran L9 4) α' 2999 = row (pb) 182 (PC.setIfInBounds 106 (.slice (some ⟨α' 1004, 0, none⟩) (n + 1) (n + 1 + (α' 2004)))) := by
        show rcallF11T2999 pb PC sb c st n src mp es k ms MC gb cg G m loc nm sx ln cp B1_1 B1 (Rega.ran L9 4) α' = _
        unfold rcallF11T2999
        rw [if_pos (show Rega.ran L9 4 4 = true from rfl)]
      have f1 : R9 (Rega.ran L9 4) α' 3999 = row (α' 1004) 201 (full symZ (symL (bump (st ++ [syk nm 27]) n)) (α' 2004)) := by
        show rcallF11T3999 pb PC sb c st n src mp es k ms MC gb cg G m loc nm sx ln cp B1_1 B1 (Rega.ran L9 4) α' = _
        unfold rcallF11T3999
        rw [if_pos (show Rega.ran L9 4 4 = true from rfl)]
      have f2 : R9 (Rega.ran L9 4) α' 4999 = ((mp, .map (es.push ⟨.string nm, .agg #[.int .i32 loc, .int .u32 src, .int .u32 (n : Int)], k⟩) (k + 1)) : Rw) := by
        show rcallF11T4999 pb PC sb c st n src mp es k ms MC gb cg G m loc nm sx ln cp B1_1 B1 (Rega.ran L9 4) α' = _
        unfold rcallF11T4999
        rw [if_pos (show Rega.ran L9 4 4 = true from rfl)]
      have f3 : R9 (Rega.ran L9 4) α' 5999 = row (ms) 194 (MC.setIfInBounds 5 (.slice (some ⟨α' 3004, 0, none⟩) (m + 1) (m + 1 + (α' 4004)))) := by
        show rcallF11T5999 pb PC sb c st n src mp es k ms MC gb cg G m loc nm sx ln cp B1_1 B1 (Rega.ran L9 4) α' = _
        unfold rcallF11T5999
        rw [if_pos (show Rega.ran L9 4 4 = true from rfl)]
      have f4 : R9 (Rega.ran L9 4) α' 6999 = row (α' 3004) 58 (full refZ (G ++ [.int .u32 src, .int .u32 (n : Int)]) (α' 4004)) := by
        show rcallF11T6999 pb PC sb c st n src mp es k ms MC gb cg G m loc nm sx ln cp B1_1 B1 (Rega.ran L9 4) α' = _
        unfold rcallF11T6999
        rw [if_pos (show Rega.ran L9 4 4 = true from rfl)]
      have f5 : R9 (Rega.ran L9 4) α' 4 = row (α' 4) 60 #[.int .u32 src, .int .u32 (n : Int), .bool false, .bool false, .bool false] := rfl
      have hα : ∀ j, j % 1000 ≠ 4 → α' j = α j := fun j hj => by rw [hα']; simp only []; rw [if_neg (by omega), if_neg (by omega), if_neg (by omega), if_neg (by omega), if_neg (by omega)]
      have hb0 : α' 4 = b0 := by rw [hα']; rfl
      have hb1 : α' 1004 = b1 := by rw [hα']; rfl
      have hb2 : α' 2004 = b2 := by rw [hα']; rfl
      have hb3 : α' 3004 = b3 := by rw [hα']; rfl
      have hb4 : α' 4004 = b4 := by rw [hα']; rfl
      skip
      refine hK _ α' _ hα ?_ (step_call (st9) hL hcl hα [2999, 3999, 4999, 5999, 6999] [2999, 3999, 4999, 5999, 6999, 4] (by decide) (by decide) (by decide) (M := _) ?_ hG hQ)
      · show _ = (.agg #[.iface 56 (.pointer (some ⟨α' 4, 0, none⟩)), .int .i32 loc] : Value)
        simp only [hb0]
      · show [R9 (Rega.ran L9 4) α' 2999, R9 (Rega.ran L9 4) α' 3999, R9 (Rega.ran L9 4) α' 4999, R9 (Rega.ran L9 4) α' 5999, R9 (Rega.ran L9 4) α' 6999, R9 (Rega.ran L9 4) α' 4] = _
        rw [f0, f1, f2, f3, f4, f5]
        simp only [hb0, hb1, hb2, hb3, hb4]
        try rfl
    · intro L9 α a9 u9 K9 hL hcl hA hG hS h0 h1 hK
      replace hL : L9 5 = false := hL
      have q3 : a9.tmps[3]? = some (.slice (some ⟨sx, 0, none⟩) ln cp) := (h0 3 (by kernel_rfl)).trans rfl
      have s3 := Rega.eval_of q3
      go_simp
      exact hK _ α _ (fun _ _ => rfl) rfl (step_same (st9) hL hcl rfl rfl hG)
    · intro L9 α a9 u9 K9 hL hcl hA hG hS h0 h1 hK
      replace hL : L9 6 = false := hL
      have q13 : a9.tmps[13]? = some (.agg #[.iface 56 (.pointer (some ⟨α 4, 0, none⟩)), .int .i32 loc]) := hS 4 13 (by decide) rfl (by show 13 < 19; decide)
      have s13 := Rega.eval_of q13
      have q14 : a9.tmps[14]? = some (.slice (some ⟨sx, 0, none⟩) ln cp) := hS 5 14 (by decide) rfl (by show 14 < 19; decide)
      have s14 := Rega.eval_of q14
      go_simp
      exact hK _ α _ (fun _ _ => rfl) rfl (step_same (st9) hL hcl rfl rfl hG)
    · intro L9 α a9 u9 K9 hL hcl hA hG hS h0 h1 hK
      replace hL : L9 7 = false := hL
      have q15 : a9.tmps[15]? = some (.agg #[.iface 56 (.pointer (some ⟨α 4, 0, none⟩)), .int .i32 loc, .slice (some ⟨sx, 0, none⟩) ln cp, .int .i32 0, .int .u8 0, .int .u8 0, .bool false, .bool false]) := hS 6 15 (by decide) rfl (by show 15 < 19; decide)
      have s15 := Rega.eval_of q15
      go_simp
      exact hK _ (fun j => if j = 7 then u9.heap.size else α j) _ (fun j hj => if_neg (fun e => hj (by rw [e]))) rfl (step_alloc (st9) hL hcl rfl rfl (by decide) _ rfl hG)
    · intro L9 α a9 u9 K9 hL hcl hA hG hS h0 h1 hK
      replace hL : L9 8 = false := hL
      have q16 : a9.tmps[16]? = some (.pointer (some ⟨α 7, 0, none⟩)) := hS 7 16 (by decide) rfl (by show 16 < 19; decide)
      have s16 := Rega.eval_of q16
      go_simp
      exact hK _ α _ (fun _ _ => rfl) rfl (step_same (st9) hL hcl rfl rfl hG)
    · intro L9 α a9 u9 K9 hL hcl hA hG hS h0 h1 hK
      replace hL : L9 9 = false := hL
      have q9 : a9.tmps[9]? = some (.agg #[.int .i32 loc]) := hS 0 9 (by decide) rfl (by show 9 < 19; decide)
      have s9 := Rega.eval_of q9
      have q17 : a9.tmps[17]? = some (.iface 284 (.pointer (some ⟨α 7, 0, none⟩))) := hS 8 17 (by decide) rfl (by show 17 < 19; decide)
      have s17 := Rega.eval_of q17
      go_simp
      exact hK _ α _ (fun _ _ => rfl) rfl (step_same (st9) hL hcl rfl rfl hG)
    · intro L9 α a9 u9 K9 hL hcl hA hG hS h0 h1 hK
      replace hL : L9 10 = false := hL
      have q8 : a9.tmps[8]? = some (.pointer (some ⟨B1_1, 0, none⟩)) := (h0 8 (by kernel_rfl)).trans rfl
      have s8 := Rega.eval_of q8
      have q18 : a9.tmps[18]? = some (.agg #[.iface 284 (.pointer (some ⟨α 7, 0, none⟩)), .int .i32 loc]) := hS 9 18 (by decide) rfl (by show 18 < 19; decide)
      have s18 := Rega.eval_of q18
      have e0 : R9 L9 α 999 = row (B1_1) 29 #[.nilIface, .int .i32 0] := by
        show rcallF11T999 pb PC sb c st n src mp es k ms MC gb cg G m loc nm sx ln cp B1_1 B1 L9 α = _
        unfold rcallF11T999
        rw [if_neg (by rw [hL]; decide)]
      have hr := hG.rowAt 999 (act_base 999 rfl) e0
      have c0 : u9.cell? ⟨B1_1, 0, none⟩ = some (.nilIface) := hr.cell rfl
      have y0 : u9.frozen? ⟨B1_1, 0, none⟩ = false := hr.free (0)
      have c1 : u9.cell? ⟨B1_1, 1, none⟩ = some (.int .i32 0) := hr.cell rfl
      have y1 : u9.frozen? ⟨B1_1, 1, none⟩ = false := hr.free (1)
      clear hr
      have E0 := Lib.hid e0
      clear e0
      go_simp
      have e1 : R9 (Rega.ran L9 10) α 999 = row (B1_1) 29 #[.iface 284 (.pointer (some ⟨α 7, 0, none⟩)), .int .i32 loc] := by
        show rcallF11T999 pb PC sb c st n src mp es k ms MC gb cg G m loc nm sx ln cp B1_1 B1 (Rega.ran L9 10) α = _
        unfold rcallF11T999
        rw [if_pos (show Rega.ran L9 10 10 = true from rfl)]
      exact hK _ α _ (fun _ _ => rfl) rfl (step_sets (st9) hL hcl rfl 999 rfl (act_base 999 rfl) E0.out (0) [.iface 284 (.pointer (some ⟨α 7, 0, none⟩)), .int .i32 loc] (e1.trans rfl) hG)
  clear st9
  intro α u hG
  have e0 : R9 (fun k => decide (k < 11)) α 999 = row (B1_1) 29 #[.iface 284 (.pointer (some ⟨α 7, 0, none⟩)), .int .i32 loc] := by
    show rcallF11T999 pb PC sb c st n src mp es k ms MC gb cg G m loc nm sx ln cp B1_1 B1 (fun k => decide (k < 11)) α = _
    unfold rcallF11T999
    rw [if_pos (by decide)]
  have e1 : R9 (fun k => decide (k < 11)) α 1999 = row (B1) 27 #[.int .i32 loc] := rfl
  have e2 : R9 (fun k => decide (k < 11)) α 2999 = row (pb) 182 (PC.setIfInBounds 106 (.slice (some ⟨α 1004, 0, none⟩) (n + 1) (n + 1 + (α 2004)))) := by
    show rcallF11T2999 pb PC sb c st n src mp es k ms MC gb cg G m loc nm sx ln cp B1_1 B1 (fun k => decide (k < 11)) α = _
    unfold rcallF11T2999
    rw [if_pos (by decide)]
  have e3 : R9 (fun k => decide (k < 11)) α 3999 = row (α 1004) 201 (full symZ (symL (bump (st ++ [syk nm 27]) n)) (α 2004)) := by
    show rcallF11T3999 pb PC sb c st n src mp es k ms MC gb cg G m loc nm sx ln cp B1_1 B1 (fun k => decide (k < 11)) α = _
    unfold rcallF11T3999
    rw [if_pos (by decide)]
  have e4 : R9 (fun k => decide (k < 11)) α 4999 = ((mp, .map (es.push ⟨.string nm, .agg #[.int .i32 loc, .int .u32 src, .int .u32 (n : Int)], k⟩) (k + 1)) : Rw) := by
    show rcallF11T4999 pb PC sb c st n src mp es k ms MC gb cg G m loc nm sx ln cp B1_1 B1 (fun k => decide (k < 11)) α = _
    unfold rcallF11T4999
    rw [if_pos (by decide)]
  have e5 : R9 (fun k => decide (k < 11)) α 5999 = row (ms) 194 (MC.setIfInBounds 5 (.slice (some ⟨α 3004, 0, none⟩) (m + 1) (m + 1 + (α 4004)))) := by
    show rcallF11T5999 pb PC sb c st n src mp es k ms MC gb cg G m loc nm sx ln cp B1_1 B1 (fun k => decide (k < 11)) α = _
    unfold rcallF11T5999
    rw [if_pos (by decide)]
  have e6 : R9 (fun k => decide (k < 11)) α 6999 = row (α 3004) 58 (full refZ (G ++ [.int .u32 src, .int .u32 (n : Int)]) (α 4004)) := by
    show rcallF11T6999 pb PC sb c st n src mp es k ms MC gb cg G m loc nm sx ln cp B1_1 B1 (fun k => decide (k < 11)) α = _
    unfold rcallF11T6999
    rw [if_pos (by decide)]
  have e7 : R9 (fun k => decide (k < 11)) α 4 = row (α 4) 60 #[.int .u32 src, .int .u32 (n : Int), .bool false, .bool false, .bool false] := rfl
  have e8 : R9 (fun k => decide (k < 11)) α 7 = row (α 7) 288 #[.iface 56 (.pointer (some ⟨α 4, 0, none⟩)), .int .i32 loc, .slice (some ⟨sx, 0, none⟩) ln cp, .int .i32 0, .int .u8 0, .int .u8 0, .bool false, .bool false] := rfl
  have hO : Own w0 u [row (B1_1) 29 #[.iface 284 (.pointer (some ⟨α 7, 0, none⟩)), .int .i32 loc], row (B1) 27 #[.int .i32 loc], row (pb) 182 (PC.setIfInBounds 106 (.slice (some ⟨α 1004, 0, none⟩) (n + 1) (n + 1 + (α 2004)))), row (α 1004) 201 (full symZ (symL (bump (st ++ [syk nm 27]) n)) (α 2004)), ((mp, .map (es.push ⟨.string nm, .agg #[.int .i32 loc, .int .u32 src, .int .u32 (n : Int)], k⟩) (k + 1)) : Rw), row (ms) 194 (MC.setIfInBounds 5 (.slice (some ⟨α 3004, 0, none⟩) (m + 1) (m + 1 + (α 4004)))), row (α 3004) 58 (full refZ (G ++ [.int .u32 src, .int .u32 (n : Int)]) (α 4004)), row (α 4) 60 #[.int .u32 src, .int .u32 (n : Int), .bool false, .bool false, .bool false], row (α 7) 288 #[.iface 56 (.pointer (some ⟨α 4, 0, none⟩)), .int .i32 loc, .slice (some ⟨sx, 0, none⟩) ln cp, .int .i32 0, .int .u8 0, .int .u8 0, .bool false, .bool false]] X := (hG.list [999, 1999, 2999, 3999, 4999, 5999, 6999, 4, 7] (by decide) (act_all (by decide))).conv (by
    show [R9 (fun k => decide (k < 11)) α 999, R9 (fun k => decide (k < 11)) α 1999, R9 (fun k => decide (k < 11)) α 2999, R9 (fun k => decide (k < 11)) α 3999, R9 (fun k => decide (k < 11)) α 4999, R9 (fun k => decide (k < 11)) α 5999, R9 (fun k => decide (k < 11)) α 6999, R9 (fun k => decide (k < 11)) α 4, R9 (fun k => decide (k < 11)) α 7] = _
    rw [e0, e1, e2, e3, e4, e5, e6, e7, e8])
  clear hG e0 e1 e2 e3 e4 e5 e6 e7 e8 R9
  generalize hfr : Rega.frameAt _ _ _ _ _ = fr
  have hdf : fr = ⟨#[.pointer (some ⟨pb, 0, none⟩), .agg #[.int .i32 loc], .string nm, .slice (some ⟨sx, 0, none⟩) ln cp, undef, .pointer (some ⟨B1, 0, none⟩), undef, undef, .pointer (some ⟨B1_1, 0, none⟩), .agg #[.int .i32 loc], .pointer (some ⟨pb, 0, none⟩), .agg #[.int .i32 loc], .string nm, .agg #[.iface 56 (.pointer (some ⟨α 4, 0, none⟩)), .int .i32 loc], .slice (some ⟨sx, 0, none⟩) ln cp, .agg #[.iface 56 (.pointer (some ⟨α 4, 0, none⟩)), .int .i32 loc, .slice (some ⟨sx, 0, none⟩) ln cp, .int .i32 0, .int .u8 0, .int .u8 0, .bool false, .bool false], .pointer (some ⟨α 7, 0, none⟩), .iface 284 (.pointer (some ⟨α 7, 0, none⟩)), .agg #[.iface 284 (.pointer (some ⟨α 7, 0, none⟩)), .int .i32 loc]], []⟩ := by rw [← hfr]; kernel_rfl
  clear hfr
  subst hdf
  generalize α 4 = nd3 at hO ⊢
  generalize α 7 = nd4 at hO ⊢
  generalize α 1004 = nd5 at hO ⊢
  generalize α 2004 = nd6 at hO ⊢
  generalize α 3004 = nd7 at hO ⊢
  generalize α 4004 = nd8 at hO ⊢
  clear α
  obtain ⟨c9_0_0, c9_0_1, lt9_0, y9_0, -⟩ := hO.k2 0 rfl
  obtain ⟨c9_1_0, lt9_1, y9_1, -⟩ := hO.k1 1 rfl
  obtain ⟨c9_7_0, c9_7_1, c9_7_2, c9_7_3, c9_7_4, lt9_7, y9_7, -⟩ := hO.k5 7 rfl
  obtain ⟨c9_8_0, c9_8_1, c9_8_2, c9_8_3, c9_8_4, c9_8_5, c9_8_6, c9_8_7, lt9_8, y9_8, -⟩ := hO.k8 8 rfl
  have HO := Lib.hid hO
  clear hO
  go_wp2_with (first | (with_reducible refine Own.stay (fn := Tryz.f37) ?_) | fail)
  try with_reducible refine Own.Stay.mk ?_
  have hO := HO.out
  clear HO c9_0_0 c9_0_1 lt9_0 y9_0 c9_1_0 lt9_1 y9_1 c9_7_0 c9_7_1 c9_7_2 c9_7_3 c9_7_4 lt9_7 y9_7 c9_8_0 c9_8_1 c9_8_2 c9_8_3 c9_8_4 c9_8_5 c9_8_6 c9_8_7 lt9_8 y9_8
  have z9_0_0 : u.cell? ⟨B1_1, 0, none⟩ = some (.iface 284 (.pointer (some ⟨nd4, 0, none⟩))) := hO.cell 0 rfl 0 rfl
  have z9_0_1 : u.cell? ⟨B1_1, 1, none⟩ = some (.int .i32 loc) := hO.cell 0 rfl 1 rfl
  refine bodyPost_ret (v := .agg #[.iface 284 (.pointer (some ⟨nd4, 0, none⟩)), .int .i32 loc]) ?_ rfl ⟨nd4, nd3, nd5, nd6, nd7, nd8, rfl, hO.sub [2, 3, 4, 5, 6, 7, 8] (by decide)⟩
  simp [results, Tryz.results37, go_sem, z9_0_0, z9_0_1]
end Go.Proofs.YtghofdhhhbbaaaaGreatDoor.Use
