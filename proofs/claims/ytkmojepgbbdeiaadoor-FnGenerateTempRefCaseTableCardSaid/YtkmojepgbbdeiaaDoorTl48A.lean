/- Row 48, from its look at the scopes on. No condition. -/
import Derived.Test.YtkmojepgbbdeiaaDoorUdr
import Derived.Test.YtkmojepgbbdeiaaDoorRdh
import Derived.Test.YtkmojepgbbdeiaaDoorChn
import Derived.Test.YtkmojepgbbdeiaaDoorRdk
import Derived.Test.YtkmojepgbbdeiaaDoorRead
import Derived.Test.YtkmojepgbbdeiaaDoorNewP
import Derived.Test.YtkmojepgbbdeiaaDoorTs
import Derived.Test.YtkmojepgbbdeiaaDoorMno
import Derived.Test.YtkmojepgbbdeiaaDoorMini
import Derived.Test.YtkmojepgbbdeiaaDoorAppL
import Derived.Test.YtkmojepgbbdeiaaDoorApp
import Derived.Test.YtkmojepgbbdeiaaDoorOwnK
import Derived.Test.YtkmojepgbbdeiaaDoorOwn
import Derived.Test.YtkmojepgbbdeiaaDoorDeepCells
import Derived.Test.YtkmojepgbbdeiaaDoorRows
import Derived.Test.YtkmojepgbbdeiaaDoorLive
namespace Go.Proofs.YtkmojepgbbdeiaaDoor.Use
open Go.ChangeShapes Go.WideShapes Go.ChangeAt Go.RowKit Go.Sort Own
set_option linter.unusedVariables false
def rtl48Af1E (ms : Nat) (MC : Array Value) (gb : Nat) (cg : Nat) (rb : Nat) (src : Int) (n : Nat) : Nat → Rega.Atoms → Value
  | 0, α => .pointer (some ⟨ms, 0, none⟩)
  | 1, α => .pointer (some ⟨ms, 0, none⟩)
  | 2, α => .pointer (some ⟨ms, 5, none⟩)
  | 3, α => .slice (some ⟨gb, 0, none⟩) 1 (1 + cg)
  | 4, α => .int .i64 1
  | 5, α => .bool false
  | 6, α => .bool false
  | 7, α => .pointer (some ⟨ms, 0, none⟩)
  | 8, α => .pointer (some ⟨ms, 0, none⟩)
  | 9, α => .pointer (some ⟨ms, 5, none⟩)
  | 10, α => .slice (some ⟨gb, 0, none⟩) 1 (1 + cg)
  | 11, α => .pointer (some ⟨gb, 0, none⟩)
  | 12, α => .agg #[.int .u32 src, .int .u32 (n : Int)]
  | 13, α => .agg #[.int .u32 src, .int .u32 (n : Int)]
  | 14, α => .bool false
  | 15, α => .bool false
  | _, _ => undef
def rtl48Af1Anc : Nat → List Nat
  | 1 => [0]
  | 2 => [0, 1]
  | 3 => [0, 1, 2]
  | 4 => [0, 1, 2, 3]
  | 5 => [0, 1, 2, 3, 4]
  | 6 => [0, 1, 2, 3, 4, 5]
  | 7 => [0, 1, 2, 3, 4, 5, 6]
  | 8 => [0, 1, 2, 3, 4, 5, 6, 7]
  | 9 => [0, 1, 2, 3, 4, 5, 6, 7, 8]
  | 10 => [0, 1, 2, 3, 4, 5, 6, 7, 8, 9]
  | 11 => [0, 1, 2, 3, 4, 5, 6, 7, 8, 9, 10]
  | 12 => [0, 1, 2, 3, 4, 5, 6, 7, 8, 9, 10, 11]
  | 13 => [0, 1, 2, 3, 4, 5, 6]
  | 14 => [0, 1, 2, 3, 4, 5, 6, 7, 8, 9, 10, 11, 12, 13]
  | 15 => [0, 1, 2, 3, 4, 5, 6, 7, 8, 9, 10, 11, 12, 13, 14]
  | _ => []
def rtl48Af1Trn : Nat → List Nat
  | _ => []
def rtl48Af1Cnt : List (Nat × Nat) := []
def rtl48Af1R (ms : Nat) (MC : Array Value) (gb : Nat) (cg : Nat) (rb : Nat) (src : Int) (n : Nat) (L9 : Nat → Bool) (α : Rega.Atoms) (ix9 : Nat) : Rw := if ix9 = 999 then row (ms) 38 MC else if ix9 = 1999 then row (gb) 33 (full refZ ([.int .u32 src, .int .u32 (n : Int)]) cg) else if ix9 = 2999 then row (rb) 33 #[.int .u32 src, .int .u32 (n : Int)] else (0, .map #[] 0)
theorem rtl48Af1_he (ms : Nat) (MC : Array Value) (gb : Nat) (cg : Nat) (rb : Nat) (src : Int) (n : Nat) : ∀ kk α α', (∀ j, (j % 1000 = kk ∨ j % 1000 ∈ rtl48Af1Anc kk) → α j = α' j) → rtl48Af1E ms MC gb cg rb src n kk α = rtl48Af1E ms MC gb cg rb src n kk α' := by
  intro kk α α' h
  match kk with
  | 0 => rfl
  | 1 => rfl
  | 2 => rfl
  | 3 => rfl
  | 4 => rfl
  | 5 => rfl
  | 6 => rfl
  | 7 => rfl
  | 8 => rfl
  | 9 => rfl
  | 10 => rfl
  | 11 => rfl
  | 12 => rfl
  | 13 => rfl
  | 14 => rfl
  | 15 => rfl
  | n + 16 => rfl
theorem rtl48Af1_st (ms : Nat) (MC : Array Value) (gb : Nat) (cg : Nat) (rb : Nat) (src : Int) (n : Nat) : Stable rtl48Af1Cnt 3 rtl48Af1Anc rtl48Af1Trn (rtl48Af1R ms MC gb cg rb src n) := by
  intro k9 L9 α α' ix9 hk hcl hα hact ht
  have hp := act_places hact
  replace hp : ix9 ∈ [999, 1999, 2999] := hp
  simp only [List.mem_cons, List.not_mem_nil, or_false] at hp
  rcases hp with rfl | rfl | rfl
  · rfl
  · rfl
  · rfl
def rtl48Ae3E (rb : Nat) (src : Int) (n : Nat) (nd4 : Nat) (nd5 : Nat) : Nat → Rega.Atoms → Value
  | 0, α => .slice (some ⟨nd4, 0, none⟩) 1 (1 + nd5)
  | 1, α => .int .i64 1
  | 2, α => .bool false
  | 3, α => .bool false
  | 4, α => .slice (some ⟨nd4, 0, none⟩) 1 (1 + nd5)
  | 5, α => .pointer (some ⟨nd4, 0, none⟩)
  | 6, α => .agg #[.int .u32 src, .int .u32 (n : Int)]
  | 7, α => .agg #[.int .u32 src, .int .u32 (n : Int)]
  | 8, α => .bool false
  | 9, α => .bool false
  | _, _ => undef
def rtl48Ae3Anc : Nat → List Nat
  | 1 => [0]
  | 2 => [0, 1]
  | 3 => [0, 1, 2]
  | 4 => [0, 1, 2, 3]
  | 5 => [0, 1, 2, 3, 4]
  | 6 => [0, 1, 2, 3, 4, 5]
  | 7 => [0, 1, 2, 3]
  | 8 => [0, 1, 2, 3, 4, 5, 6, 7]
  | 9 => [0, 1, 2, 3, 4, 5, 6, 7, 8]
  | _ => []
def rtl48Ae3Trn : Nat → List Nat
  | _ => []
def rtl48Ae3Cnt : List (Nat × Nat) := []
def rtl48Ae3R (rb : Nat) (src : Int) (n : Nat) (nd4 : Nat) (nd5 : Nat) (L9 : Nat → Bool) (α : Rega.Atoms) (ix9 : Nat) : Rw := if ix9 = 999 then row (nd4) 33 (full refZ [.int .u32 src, .int .u32 (n : Int)] nd5) else if ix9 = 1999 then row (rb) 33 #[.int .u32 src, .int .u32 (n : Int)] else (0, .map #[] 0)
theorem rtl48Ae3_he (rb : Nat) (src : Int) (n : Nat) (nd4 : Nat) (nd5 : Nat) : ∀ kk α α', (∀ j, (j % 1000 = kk ∨ j % 1000 ∈ rtl48Ae3Anc kk) → α j = α' j) → rtl48Ae3E rb src n nd4 nd5 kk α = rtl48Ae3E rb src n nd4 nd5 kk α' := by
  intro kk α α' h
  match kk with
  | 0 => rfl
  | 1 => rfl
  | 2 => rfl
  | 3 => rfl
  | 4 => rfl
  | 5 => rfl
  | 6 => rfl
  | 7 => rfl
  | 8 => rfl
  | 9 => rfl
  | n + 10 => rfl
theorem rtl48Ae3_st (rb : Nat) (src : Int) (n : Nat) (nd4 : Nat) (nd5 : Nat) : Stable rtl48Ae3Cnt 2 rtl48Ae3Anc rtl48Ae3Trn (rtl48Ae3R rb src n nd4 nd5) := by
  intro k9 L9 α α' ix9 hk hcl hα hact ht
  have hp := act_places hact
  replace hp : ix9 ∈ [999, 1999] := hp
  simp only [List.mem_cons, List.not_mem_nil, or_false] at hp
  rcases hp with rfl | rfl
  · rfl
  · rfl

set_option maxRecDepth 100000 in
set_option maxHeartbeats 20000000 in
theorem tl48A (pb : Nat) (PC : Array Value) (ms : Nat) (MC : Array Value) (gb cg qb cq : Nat) (blk : Nat → Nat) (j mb rb : Nat) (src : Int) (n : Nat) (tz0 tz1 tz3 tz4 tz5 tz6 tz7 tz8 tz9 tz10 tz11 tz12 tz13 tz14 tz15 tz18 tz21 tz22 tz23 tz24 tz25 tz26 tz27 tz28 tz29 tz30 tz31 tz32 tz33 tz34 tz35 tz36 tz37 tz38 tz39 tz40 tz41 tz42 tz43 tz44 tz45 tz46 tz47 tz48 tz49 tz50 tz51 tz52 tz53 tz54 tz55 tz56 tz57 tz58 tz59 tz60 tz61 tz62 tz63 tz64 tz65 tz66 tz67 tz68 tz69 tz70 tz71 tz72 tz73 tz74 tz75 tz76 tz77 tz78 tz79 tz80 tz81 tz82 tz83 tz84 tz85 tz86 tz87 tz88 tz89 tz90 tz91 tz92 tz93 tz94 tz95 tz96 tz97 tz98 tz99 tz100 tz101 tz102 tz103 tz104 tz105 tz106 tz107 tz108 tz109 tz110 tz111 tz112 tz113 tz114 tz115 tz116 tz117 tz118 tz119 tz120 tz121 tz122 tz123 tz124 tz125 tz126 tz127 tz128 tz129 tz130 tz131 tz132 tz133 tz134 tz135 tz136 tz137 tz138 tz139 tz140 tz141 tz142 tz143 tz144 tz145 tz146 tz147 tz148 tz149 tz150 tz151 tz152 tz153 tz154 tz155 tz156 tz157 tz158 tz159 tz160 tz161 tz162 tz163 tz164 tz165 tz166 tz167 tz168 tz169 tz170 tz171 tz172 tz173 tz174 tz175 tz176 tz177 tz178 tz179 tz180 tz181 tz182 tz183 tz184 tz185 tz186 tz187 tz188 tz189 tz190 tz191 tz192 tz193 tz194 tz195 tz196 tz197 tz198 tz199 tz200 tz201 tz202 tz203 tz204 tz205 tz206 tz207 tz208 tz209 tz210 tz211 tz212 tz213 tz214 tz215 tz216 tz217 tz218 tz219 tz220 tz221 tz222 tz223 tz224 tz225 tz226 tz227 tz228 tz229 tz230 tz231 tz232 tz233 tz234 tz235 tz236 tz237 tz238 tz239 tz240 : Value) (w0 w : World) (X X2 : Nat → Obj → Prop) (hO : Own w0 w [row (pb) 176 PC, row (ms) 38 MC, row (qb) 185 (full trfZ ([.nilIface, .int .i32 0, .int .u32 src, .int .u32 (n : Int)]) cq), row (gb) 33 (full refZ ([.int .u32 src, .int .u32 (n : Int)]) cg), row (mb) 38 #[.pointer none, .pointer none, .slice none 0 0, .map none, .slice none 0 0, .slice none 0 0, .int .i32 0, .int .i32 0, .int .u32 0, .int .u32 0, .bool false, .bool false, .bool false, .bool false, .int .u8 0, .int .u8 6], row (rb) 33 #[.int .u32 src, .int .u32 (n : Int)]] X2) (hXX : ∀ b o, X b o → X2 b o) (hk200 : PC[200]? = some (.slice none 0 0)) (hk288 : PC[288]? = some (.int .i64 0)) (hk199 : PC[199]? = some (.slice (some ⟨qb, 0, none⟩) 1 (1 + cq))) (hk198 : PC[198]? = some (.slice none 0 0)) (hm5 : MC[5]? = some (.slice (some ⟨gb, 0, none⟩) 1 (1 + cg))) (hm1 : MC[1]? = some (.pointer (some ⟨mb, 0, none⟩))) (hb0 : blk 0 = ms) (hch : ∀ k, k < j → X2 (blk (k + 1)) (.cells (scB (blk k)) 38 (0, 0))) :
    Code.wp Tryd.prog rest48 (bodyPost Tryd.prog Tryd.f5 (l48Post w0 X)) ⟨#[tz0, tz1, .int .i64 0, tz3, tz4, tz5, tz6, tz7, tz8, tz9, tz10, tz11, tz12, tz13, tz14, tz15, .pointer (some ⟨ms, 0, none⟩), .pointer (some ⟨blk j, 0, none⟩), tz18, .pointer (some ⟨pb, 0, none⟩), .pointer (some ⟨rb, 0, none⟩), tz21, tz22, tz23, tz24, tz25, tz26, tz27, tz28, tz29, tz30, tz31, tz32, tz33, tz34, tz35, tz36, tz37, tz38, tz39, tz40, tz41, tz42, tz43, tz44, tz45, tz46, tz47, tz48, tz49, tz50, tz51, tz52, tz53, tz54, tz55, tz56, tz57, tz58, tz59, tz60, tz61, tz62, tz63, tz64, tz65, tz66, tz67, tz68, tz69, tz70, tz71, tz72, tz73, tz74, tz75, tz76, tz77, tz78, tz79, tz80, tz81, tz82, tz83, tz84, tz85, tz86, tz87, tz88, tz89, tz90, tz91, tz92, tz93, tz94, tz95, tz96, tz97, tz98, tz99, tz100, tz101, tz102, tz103, tz104, tz105, tz106, tz107, tz108, tz109, tz110, tz111, tz112, tz113, tz114, tz115, tz116, tz117, tz118, tz119, tz120, tz121, tz122, tz123, tz124, tz125, tz126, tz127, tz128, tz129, tz130, tz131, tz132, tz133, tz134, tz135, tz136, tz137, tz138, tz139, tz140, tz141, tz142, tz143, tz144, tz145, tz146, tz147, tz148, tz149, tz150, tz151, tz152, tz153, tz154, tz155, tz156, tz157, tz158, tz159, tz160, tz161, tz162, tz163, tz164, tz165, tz166, tz167, tz168, tz169, tz170, tz171, tz172, tz173, tz174, tz175, tz176, tz177, tz178, tz179, tz180, tz181, tz182, tz183, tz184, tz185, tz186, tz187, tz188, tz189, tz190, tz191, tz192, tz193, tz194, tz195, tz196, tz197, tz198, tz199, tz200, tz201, tz202, tz203, tz204, tz205, tz206, tz207, tz208, tz209, tz210, tz211, tz212, tz213, tz214, tz215, tz216, tz217, tz218, tz219, tz220, tz221, tz222, tz223, tz224, tz225, tz226, tz227, tz228, tz229, tz230, tz231, tz232, tz233, tz234, tz235, tz236, tz237, tz238, tz239, tz240], []⟩ w := by
  simp only [rest48, Tryd.f5, Option.getD_some, cutC]
  have HB0 := Lib.hid hb0
  clear hb0
  have HXX := Lib.hid hXX
  clear hXX
  have c9_4_1 : w.cell? ⟨mb, 1, none⟩ = some (.pointer none) := hO.cell 4 rfl (1) rfl
  have c9_4_5 : w.cell? ⟨mb, 5, none⟩ = some (.slice none 0 0) := hO.cell 4 rfl (5) rfl
  have lt9_4 : mb < w.heap.size := hO.lt 4 rfl
  have y9_4 : ∀ o, w.frozen? ⟨mb, o, none⟩ = false := hO.free 4 rfl
  obtain ⟨c9_5_0, c9_5_1, lt9_5, y9_5, -⟩ := hO.k2 5 rfl
  have HO := Lib.hid hO
  clear hO
  go_wp2_with (first | (with_reducible refine Own.stay (fn := Tryd.f5) ?_) | (at_builtin; refine Own.appStop ?_) | fail)
  try with_reducible refine Own.Stay.mk ?_
  have hO := HO.out
  clear HO c9_4_1 c9_4_5 lt9_4 y9_4 c9_5_0 c9_5_1 lt9_5 y9_5
  go_loopg [24] (j + 2) (fun gf s24 wx => ((∃ k y, k ≤ j ∧ gf = k + 2 ∧ y = blk k ∧ s24 = .pointer (some ⟨y, 0, none⟩)) ∨ (gf = 1 ∧ s24 = .pointer (some ⟨mb, 0, none⟩)) ∨ (gf = 0 ∧ s24 = .pointer none)) ∧ Own w0 wx [row (pb) 176 PC, row (ms) 38 MC, row (qb) 185 (full trfZ ([.nilIface, .int .i32 0, .int .u32 src, .int .u32 (n : Int)]) cq), row (gb) 33 (full refZ ([.int .u32 src, .int .u32 (n : Int)]) cg), row (mb) 38 #[.pointer none, .pointer none, .slice none 0 0, .map none, .slice none 0 0, .slice none 0 0, .int .i32 0, .int .i32 0, .int .u32 0, .int .u32 0, .bool false, .bool false, .bool false, .bool false, .int .u8 0, .int .u8 6], row (rb) 33 #[.int .u32 src, .int .u32 (n : Int)]] X2)
  case atStart => exact ⟨Or.inl ⟨j, _, Nat.le_refl _, rfl, rfl, rfl⟩, hO⟩
  obtain ⟨hs, hO⟩ := hrel
  rcases hs with ⟨k, y, hkj, hgk, hyk, rfl⟩ | ⟨hgk, rfl⟩ | ⟨hgk, rfl⟩
  · skip
    obtain ⟨gq, rfl⟩ : ∃ gq, gk = gq + 1 := ⟨gk - 1, by omega⟩
    by_cases hk0 : 0 < k
    · skip
      obtain ⟨k2, rfl⟩ : ∃ k2, k = k2 + 1 := ⟨k - 1, by omega⟩
      have H00 := Lib.hid hO
      have hN := hO.take (hch k2 (by omega))
      obtain ⟨X4, hX4⟩ : ∃ Y, Y = (fun b o => X2 b o ∧ b ≠ blk (k2 + 1)) := ⟨_, rfl⟩
      rw [← hX4] at hN
      have HX4 := Lib.hid hX4
      clear hX4 hO
      subst hyk
      have hO := hN
      clear hN
      have hN : Own w0 wr [row (blk (k2 + 1)) 38 #[.pointer none, .pointer (some ⟨blk k2, 0, none⟩), .slice none 0 0, .map none, .slice none 0 0, .slice none 0 0, .int .i32 0, .int .i32 0, .int .u32 0, .int .u32 0, .bool false, .bool false, .bool false, .bool false, .int .u8 0, .int .u8 0], row (pb) 176 PC, row (ms) 38 MC, row (qb) 185 (full trfZ ([.nilIface, .int .i32 0, .int .u32 src, .int .u32 (n : Int)]) cq), row (gb) 33 (full refZ ([.int .u32 src, .int .u32 (n : Int)]) cg), row (mb) 38 #[.pointer none, .pointer none, .slice none 0 0, .map none, .slice none 0 0, .slice none 0 0, .int .i32 0, .int .i32 0, .int .u32 0, .int .u32 0, .bool false, .bool false, .bool false, .bool false, .int .u8 0, .int .u8 6], row (rb) 33 #[.int .u32 src, .int .u32 (n : Int)]] X4 := hO
      clear hO
      have hO := hN
      clear hN
      obtain ⟨ix9, hix9, hax9, hjx9⟩ := hO.ix
      have ix9_0 : ix9 (blk (k2 + 1)) = 0 := hjx9 0 _ _ rfl
      have ix9_1 : ix9 pb = 1 := hjx9 1 _ _ rfl
      have ix9_2 : ix9 ms = 2 := hjx9 2 _ _ rfl
      have ix9_3 : ix9 qb = 3 := hjx9 3 _ _ rfl
      have ix9_4 : ix9 gb = 4 := hjx9 4 _ _ rfl
      have ix9_5 : ix9 mb = 5 := hjx9 5 _ _ rfl
      have ix9_6 : ix9 rb = 6 := hjx9 6 _ _ rfl
      clear hjx9
      have pl9_0 : Base.plainAt wr (blk (k2 + 1)) = true := hO.plain 0 rfl
      have c9_0_1 : wr.cell? ⟨blk (k2 + 1), 1, none⟩ = some (.pointer (some ⟨blk k2, 0, none⟩)) := hO.cell 0 rfl (1) rfl
      have c9_0_5 : wr.cell? ⟨blk (k2 + 1), 5, none⟩ = some (.slice none 0 0) := hO.cell 0 rfl (5) rfl
      have lt9_0 : blk (k2 + 1) < wr.heap.size := hO.lt 0 rfl
      have y9_0 : ∀ o, wr.frozen? ⟨blk (k2 + 1), o, none⟩ = false := hO.free 0 rfl
      have c9_1_198 : wr.cell? ⟨pb, 198, none⟩ = some (.slice none 0 0) := hO.cell 1 rfl (198) (hk198)
      have c9_1_199 : wr.cell? ⟨pb, 199, none⟩ = some (.slice (some ⟨qb, 0, none⟩) 1 (1 + cq)) := hO.cell 1 rfl (199) (hk199)
      have c9_1_200 : wr.cell? ⟨pb, 200, none⟩ = some (.slice none 0 0) := hO.cell 1 rfl (200) (hk200)
      have c9_1_288 : wr.cell? ⟨pb, 288, none⟩ = some (.int .i64 0) := hO.cell 1 rfl (288) (hk288)
      have lt9_1 : pb < wr.heap.size := hO.lt 1 rfl
      have y9_1 : ∀ o, wr.frozen? ⟨pb, o, none⟩ = false := hO.free 1 rfl
      have pl9_2 : Base.plainAt wr (ms) = true := hO.plain 2 rfl
      have c9_2_1 : wr.cell? ⟨ms, 1, none⟩ = some (.pointer (some ⟨mb, 0, none⟩)) := hO.cell 2 rfl (1) (hm1)
      have c9_2_5 : wr.cell? ⟨ms, 5, none⟩ = some (.slice (some ⟨gb, 0, none⟩) 1 (1 + cg)) := hO.cell 2 rfl (5) (hm5)
      have lt9_2 : ms < wr.heap.size := hO.lt 2 rfl
      have y9_2 : ∀ o, wr.frozen? ⟨ms, o, none⟩ = false := hO.free 2 rfl
      have c9_3_0 : wr.cell? ⟨qb, 0, none⟩ = some (.nilIface) := hO.cell 3 rfl (0) ((full_at rfl))
      have c9_3_1 : wr.cell? ⟨qb, 1, none⟩ = some (.int .i32 0) := hO.cell 3 rfl (1) ((full_at rfl))
      have c9_3_2 : wr.cell? ⟨qb, 2, none⟩ = some (.int .u32 src) := hO.cell 3 rfl (2) ((full_at rfl))
      have c9_3_3 : wr.cell? ⟨qb, 3, none⟩ = some (.int .u32 (n : Int)) := hO.cell 3 rfl (3) ((full_at rfl))
      have lt9_3 : qb < wr.heap.size := hO.lt 3 rfl
      have y9_3 : ∀ o, wr.frozen? ⟨qb, o, none⟩ = false := hO.free 3 rfl
      have pl9_4 : Base.plainAt wr (gb) = true := hO.plain 4 rfl
      have c9_4_0 : wr.cell? ⟨gb, 0, none⟩ = some (.int .u32 src) := hO.cell 4 rfl (0) ((full_at rfl))
      have c9_4_1 : wr.cell? ⟨gb, 1, none⟩ = some (.int .u32 (n : Int)) := hO.cell 4 rfl (1) ((full_at rfl))
      have lt9_4 : gb < wr.heap.size := hO.lt 4 rfl
      have y9_4 : ∀ o, wr.frozen? ⟨gb, o, none⟩ = false := hO.free 4 rfl
      have pl9_5 : Base.plainAt wr (mb) = true := hO.plain 5 rfl
      have c9_5_1 : wr.cell? ⟨mb, 1, none⟩ = some (.pointer none) := hO.cell 5 rfl (1) rfl
      have c9_5_5 : wr.cell? ⟨mb, 5, none⟩ = some (.slice none 0 0) := hO.cell 5 rfl (5) rfl
      have lt9_5 : mb < wr.heap.size := hO.lt 5 rfl
      have y9_5 : ∀ o, wr.frozen? ⟨mb, o, none⟩ = false := hO.free 5 rfl
      obtain ⟨c9_6_0, c9_6_1, lt9_6, y9_6, pl9_6⟩ := hO.k2 6 rfl
      have HO := Lib.hid hO
      clear hO
      go_wp2_with (first | (with_reducible refine Own.stay (fn := Tryd.f5) ?_) | (at_builtin; refine Own.appStop ?_) | fail)
      try with_reducible refine Own.Stay.mk ?_
      have hO := HO.out
      clear HO hix9 hax9 ix9_0 ix9_1 ix9_2 ix9_3 ix9_4 ix9_5 ix9_6 ix9 pl9_0 c9_0_1 c9_0_5 lt9_0 y9_0 c9_1_198 c9_1_199 c9_1_200 c9_1_288 lt9_1 y9_1 pl9_2 c9_2_1 c9_2_5 lt9_2 y9_2 c9_3_0 c9_3_1 c9_3_2 c9_3_3 lt9_3 y9_3 pl9_4 c9_4_0 c9_4_1 lt9_4 y9_4 pl9_5 c9_5_1 c9_5_5 lt9_5 y9_5 c9_6_0 c9_6_1 lt9_6 y9_6 pl9_6
      have hN : Own w0 wr [row (blk (k2 + 1)) 38 #[.pointer none, .pointer (some ⟨blk k2, 0, none⟩), .slice none 0 0, .map none, .slice none 0 0, .slice none 0 0, .int .i32 0, .int .i32 0, .int .u32 0, .int .u32 0, .bool false, .bool false, .bool false, .bool false, .int .u8 0, .int .u8 0], row (pb) 176 PC, row (ms) 38 MC, row (qb) 185 (full trfZ ([.nilIface, .int .i32 0, .int .u32 src, .int .u32 (n : Int)]) cq), row (gb) 33 (full refZ ([.int .u32 src, .int .u32 (n : Int)]) cg), row (mb) 38 #[.pointer none, .pointer none, .slice none 0 0, .map none, .slice none 0 0, .slice none 0 0, .int .i32 0, .int .i32 0, .int .u32 0, .int .u32 0, .bool false, .bool false, .bool false, .bool false, .int .u8 0, .int .u8 6], row (rb) 33 #[.int .u32 src, .int .u32 (n : Int)]] X4 := hO.sub [0, 1, 2, 3, 4, 5, 6] (by decide)
      clear hO
      have hO := hN
      clear hN
      go_roundg gq
      case measure => omega
      case rel => exact ⟨Or.inl ⟨k2, _, by omega, by omega, rfl, rfl⟩, Own.unlend (o := .cells (scB (blk k2)) 38 (0, 0)) H00.out (hch k2 (by omega)) HX4.out hO⟩
    obtain rfl : k = 0 := by omega
    obtain rfl : ms = y := (hyk.trans HB0.out).symm
    clear hyk hk0
    have c9_4_1 : wr.cell? ⟨mb, 1, none⟩ = some (.pointer none) := hO.cell 4 rfl (1) rfl
    have c9_4_5 : wr.cell? ⟨mb, 5, none⟩ = some (.slice none 0 0) := hO.cell 4 rfl (5) rfl
    have lt9_4 : mb < wr.heap.size := hO.lt 4 rfl
    have y9_4 : ∀ o, wr.frozen? ⟨mb, o, none⟩ = false := hO.free 4 rfl
    obtain ⟨c9_5_0, c9_5_1, lt9_5, y9_5, -⟩ := hO.k2 5 rfl
    have HO := Lib.hid hO
    clear hO
    go_wp2_with (first | (with_reducible refine Own.stay (fn := Tryd.f5) ?_) | (at_builtin; refine Own.appStop ?_) | fail)
    try with_reducible refine Own.Stay.mk ?_
    have hO := HO.out
    clear HO c9_4_1 c9_4_5 lt9_4 y9_4 c9_5_0 c9_5_1 lt9_5 y9_5
    have hL := hO.apart
    have hX := hO.apartX
    have HL := Lib.hid hL
    have HX := Lib.hid hX
    clear hL hX
    have hP9 := hO.pick [1, 3, 5] (by decide)
    generalize hX9_1 : Own.Rest _ _ X2 = X9_1 at hP9
    replace hP9 : Own w0 wr [row (ms) 38 MC, row (gb) 33 (full refZ ([.int .u32 src, .int .u32 (n : Int)]) cg), row (rb) 33 #[.int .u32 src, .int .u32 (n : Int)]] X9_1 := hP9
    clear hO
    have hO := hP9
    clear hP9
    have st9 := rtl48Af1_st ms MC gb cg rb src n
    let R9 := rtl48Af1R ms MC gb cg rb src n
    refine wp_region_own (e := rtl48Af1E ms MC gb cg rb src n) (anc := rtl48Af1Anc) (G := (fun L9 α u9 => OwnF w0 u9 (act rtl48Af1Cnt 3 L9) (rtl48Af1R ms MC gb cg rb src n L9 α) X9_1)) (by kernel_rfl) (by kernel_rfl) (by kernel_rfl) (by kernel_rfl) (rtl48Af1_he ms MC gb cg rb src n) ?_ (RunsAll.all ?_) ?_
    · have hp : ∀ i, act rtl48Af1Cnt 3 (fun _ => false) i → i ∈ [999, 1999, 2999] := by
        intro i hi
        have h9 : i % 1000 = 999 := by
          by_cases h : i % 1000 = 999
          · exact h
          · exact absurd (act_lt hi h) (by simp)
        unfold act at hi
        rw [if_pos h9] at hi
        simp only [List.mem_cons, List.not_mem_nil, or_false]
        omega
      refine hO.drew.family (fun i hi => ?_) (fun i j hi hj hij => ?_)
      · have := hp i hi
        simp only [List.mem_cons, List.not_mem_nil, or_false] at this
        rcases this with rfl | rfl | rfl <;> rfl
      · have h1 := hp i hi
        have h2 := hp j hj
        simp only [List.mem_cons, List.not_mem_nil, or_false] at h1 h2
        omega
    · refine ⟨?_, ?_, ?_, ?_, ?_, ?_, ?_, ?_, ?_, ?_, ?_, ?_, ?_, ?_, ?_, ?_, trivial⟩
      · intro L9 α a9 u9 K9 hL hcl hA hG hS h0 hK
        replace hL : L9 0 = false := hL
        have q24 : a9.tmps[24]? = some (.pointer (some ⟨ms, 0, none⟩)) := (h0 24 (by kernel_rfl)).trans rfl
        have s24 := Rega.eval_of q24
        go_simp
        exact hK _ α _ (fun _ _ => rfl) rfl (step_same (st9) hL hcl rfl rfl hG)
      · intro L9 α a9 u9 K9 hL hcl hA hG hS h0 hK
        replace hL : L9 1 = false := hL
        have q162 : a9.tmps[162]? = some (.pointer (some ⟨ms, 0, none⟩)) := hS 0 162 (by decide) rfl (by show 162 < 241; decide)
        have s162 := Rega.eval_of q162
        go_simp
        exact hK _ α _ (fun _ _ => rfl) rfl (step_same (st9) hL hcl rfl rfl hG)
      · intro L9 α a9 u9 K9 hL hcl hA hG hS h0 hK
        replace hL : L9 2 = false := hL
        have q163 : a9.tmps[163]? = some (.pointer (some ⟨ms, 0, none⟩)) := hS 1 163 (by decide) rfl (by show 163 < 241; decide)
        have s163 := Rega.eval_of q163
        go_simp
        exact hK _ α _ (fun _ _ => rfl) rfl (step_same (st9) hL hcl rfl rfl hG)
      · intro L9 α a9 u9 K9 hL hcl hA hG hS h0 hK
        replace hL : L9 3 = false := hL
        have q164 : a9.tmps[164]? = some (.pointer (some ⟨ms, 5, none⟩)) := hS 2 164 (by decide) rfl (by show 164 < 241; decide)
        have s164 := Rega.eval_of q164
        have e0 : R9 L9 α 999 = row (ms) 38 MC := rfl
        have hr := hG.rowAt 999 (act_base 999 rfl) e0
        have c0 : u9.cell? ⟨ms, 5, none⟩ = some (.slice (some ⟨gb, 0, none⟩) 1 (1 + cg)) := hr.cell (hm5)
        clear hr e0
        go_simp
        exact hK _ α _ (fun _ _ => rfl) rfl (step_same (st9) hL hcl rfl rfl hG)
      · intro L9 α a9 u9 K9 hL hcl hA hG hS h0 hK
        replace hL : L9 4 = false := hL
        have q165 : a9.tmps[165]? = some (.slice (some ⟨gb, 0, none⟩) 1 (1 + cg)) := hS 3 165 (by decide) rfl (by show 165 < 241; decide)
        have s165 := Rega.eval_of q165
        go_simp
        exact hK _ α _ (fun _ _ => rfl) rfl (step_same (st9) hL hcl rfl rfl hG)
      · intro L9 α a9 u9 K9 hL hcl hA hG hS h0 hK
        replace hL : L9 5 = false := hL
        have q166 : a9.tmps[166]? = some (.int .i64 1) := hS 4 166 (by decide) rfl (by show 166 < 241; decide)
        have s166 := Rega.eval_of q166
        go_simp
        exact hK _ α _ (fun _ _ => rfl) rfl (step_same (st9) hL hcl rfl rfl hG)
      · intro L9 α a9 u9 K9 hL hcl hA hG hS h0 hK
        replace hL : L9 6 = false := hL
        have q167 : a9.tmps[167]? = some (.bool false) := hS 5 167 (by decide) rfl (by show 167 < 241; decide)
        have s167 := Rega.eval_of q167
        go_simp
        exact hK _ α _ (fun _ _ => rfl) rfl (step_same (st9) hL hcl rfl rfl hG)
      · intro L9 α a9 u9 K9 hL hcl hA hG hS h0 hK
        replace hL : L9 7 = false := hL
        have q24 : a9.tmps[24]? = some (.pointer (some ⟨ms, 0, none⟩)) := (h0 24 (by kernel_rfl)).trans rfl
        have s24 := Rega.eval_of q24
        have q168 : a9.tmps[168]? = some (.bool false) := hS 6 168 (by decide) rfl (by show 168 < 241; decide)
        have s168 := Rega.eval_of q168
        go_simp
        exact hK _ α _ (fun _ _ => rfl) rfl (step_same (st9) hL hcl rfl rfl hG)
      · intro L9 α a9 u9 K9 hL hcl hA hG hS h0 hK
        replace hL : L9 8 = false := hL
        have q169 : a9.tmps[169]? = some (.pointer (some ⟨ms, 0, none⟩)) := hS 7 169 (by decide) rfl (by show 169 < 241; decide)
        have s169 := Rega.eval_of q169
        have q168 : a9.tmps[168]? = some (.bool false) := hS 6 168 (by decide) rfl (by show 168 < 241; decide)
        have s168 := Rega.eval_of q168
        go_simp
        exact hK _ α _ (fun _ _ => rfl) rfl (step_same (st9) hL hcl rfl rfl hG)
      · intro L9 α a9 u9 K9 hL hcl hA hG hS h0 hK
        replace hL : L9 9 = false := hL
        have q170 : a9.tmps[170]? = some (.pointer (some ⟨ms, 0, none⟩)) := hS 8 170 (by decide) rfl (by show 170 < 241; decide)
        have s170 := Rega.eval_of q170
        have q168 : a9.tmps[168]? = some (.bool false) := hS 6 168 (by decide) rfl (by show 168 < 241; decide)
        have s168 := Rega.eval_of q168
        go_simp
        exact hK _ α _ (fun _ _ => rfl) rfl (step_same (st9) hL hcl rfl rfl hG)
      · intro L9 α a9 u9 K9 hL hcl hA hG hS h0 hK
        replace hL : L9 10 = false := hL
        have q171 : a9.tmps[171]? = some (.pointer (some ⟨ms, 5, none⟩)) := hS 9 171 (by decide) rfl (by show 171 < 241; decide)
        have s171 := Rega.eval_of q171
        have q168 : a9.tmps[168]? = some (.bool false) := hS 6 168 (by decide) rfl (by show 168 < 241; decide)
        have s168 := Rega.eval_of q168
        have e0 : R9 L9 α 999 = row (ms) 38 MC := rfl
        have hr := hG.rowAt 999 (act_base 999 rfl) e0
        have c0 : u9.cell? ⟨ms, 5, none⟩ = some (.slice (some ⟨gb, 0, none⟩) 1 (1 + cg)) := hr.cell (hm5)
        clear hr e0
        go_simp
        exact hK _ α _ (fun _ _ => rfl) rfl (step_same (st9) hL hcl rfl rfl hG)
      · intro L9 α a9 u9 K9 hL hcl hA hG hS h0 hK
        replace hL : L9 11 = false := hL
        have q172 : a9.tmps[172]? = some (.slice (some ⟨gb, 0, none⟩) 1 (1 + cg)) := hS 10 172 (by decide) rfl (by show 172 < 241; decide)
        have s172 := Rega.eval_of q172
        have q168 : a9.tmps[168]? = some (.bool false) := hS 6 168 (by decide) rfl (by show 168 < 241; decide)
        have s168 := Rega.eval_of q168
        go_simp
        exact hK _ α _ (fun _ _ => rfl) rfl (step_same (st9) hL hcl rfl rfl hG)
      · intro L9 α a9 u9 K9 hL hcl hA hG hS h0 hK
        replace hL : L9 12 = false := hL
        have q173 : a9.tmps[173]? = some (.pointer (some ⟨gb, 0, none⟩)) := hS 11 173 (by decide) rfl (by show 173 < 241; decide)
        have s173 := Rega.eval_of q173
        have q168 : a9.tmps[168]? = some (.bool false) := hS 6 168 (by decide) rfl (by show 168 < 241; decide)
        have s168 := Rega.eval_of q168
        have e0 : R9 L9 α 1999 = row (gb) 33 (full refZ ([.int .u32 src, .int .u32 (n : Int)]) cg) := rfl
        have hr := hG.rowAt 1999 (act_base 1999 rfl) e0
        have c0 : u9.cell? ⟨gb, 0, none⟩ = some (.int .u32 src) := hr.cell ((full_at rfl))
        have c1 : u9.cell? ⟨gb, 1, none⟩ = some (.int .u32 (n : Int)) := hr.cell ((full_at rfl))
        clear hr e0
        go_simp
        exact hK _ α _ (fun _ _ => rfl) rfl (step_same (st9) hL hcl rfl rfl hG)
      · intro L9 α a9 u9 K9 hL hcl hA hG hS h0 hK
        replace hL : L9 13 = false := hL
        have q20 : a9.tmps[20]? = some (.pointer (some ⟨rb, 0, none⟩)) := (h0 20 (by kernel_rfl)).trans rfl
        have s20 := Rega.eval_of q20
        have q168 : a9.tmps[168]? = some (.bool false) := hS 6 168 (by decide) rfl (by show 168 < 241; decide)
        have s168 := Rega.eval_of q168
        have e0 : R9 L9 α 2999 = row (rb) 33 #[.int .u32 src, .int .u32 (n : Int)] := rfl
        have hr := hG.rowAt 2999 (act_base 2999 rfl) e0
        have c0 : u9.cell? ⟨rb, 0, none⟩ = some (.int .u32 src) := hr.cell rfl
        have c1 : u9.cell? ⟨rb, 1, none⟩ = some (.int .u32 (n : Int)) := hr.cell rfl
        clear hr e0
        go_simp
        exact hK _ α _ (fun _ _ => rfl) rfl (step_same (st9) hL hcl rfl rfl hG)
      · intro L9 α a9 u9 K9 hL hcl hA hG hS h0 hK
        replace hL : L9 14 = false := hL
        have q174 : a9.tmps[174]? = some (.agg #[.int .u32 src, .int .u32 (n : Int)]) := hS 12 174 (by decide) rfl (by show 174 < 241; decide)
        have s174 := Rega.eval_of q174
        have q175 : a9.tmps[175]? = some (.agg #[.int .u32 src, .int .u32 (n : Int)]) := hS 13 175 (by decide) rfl (by show 175 < 241; decide)
        have s175 := Rega.eval_of q175
        have q168 : a9.tmps[168]? = some (.bool false) := hS 6 168 (by decide) rfl (by show 168 < 241; decide)
        have s168 := Rega.eval_of q168
        go_simp
        exact hK _ α _ (fun _ _ => rfl) rfl (step_same (st9) hL hcl rfl rfl hG)
      · intro L9 α a9 u9 K9 hL hcl hA hG hS h0 hK
        replace hL : L9 15 = false := hL
        have q168 : a9.tmps[168]? = some (.bool false) := hS 6 168 (by decide) rfl (by show 168 < 241; decide)
        have s168 := Rega.eval_of q168
        have q176 : a9.tmps[176]? = some (.bool false) := hS 14 176 (by decide) rfl (by show 176 < 241; decide)
        have s176 := Rega.eval_of q176
        go_simp
        exact hK _ α _ (fun _ _ => rfl) rfl (step_same (st9) hL hcl rfl rfl hG)
    clear st9
    intro α u hG
    have e0 : R9 (fun k => decide (k < 16)) α 999 = row (ms) 38 MC := rfl
    have e1 : R9 (fun k => decide (k < 16)) α 1999 = row (gb) 33 (full refZ ([.int .u32 src, .int .u32 (n : Int)]) cg) := rfl
    have e2 : R9 (fun k => decide (k < 16)) α 2999 = row (rb) 33 #[.int .u32 src, .int .u32 (n : Int)] := rfl
    have hO : Own w0 u [row (ms) 38 MC, row (gb) 33 (full refZ ([.int .u32 src, .int .u32 (n : Int)]) cg), row (rb) 33 #[.int .u32 src, .int .u32 (n : Int)]] X9_1 := (hG.list [999, 1999, 2999] (by decide) (act_all (by decide))).conv (by
      show [R9 (fun k => decide (k < 16)) α 999, R9 (fun k => decide (k < 16)) α 1999, R9 (fun k => decide (k < 16)) α 2999] = _
      rw [e0, e1, e2])
    clear hG e0 e1 e2 R9
    generalize hfr : Rega.frameAt _ _ _ _ _ = fr
    have hdf : fr = ⟨#[tz0, tz1, .int .i64 0, tz3, tz4, tz5, tz6, tz7, tz8, tz9, tz10, tz11, tz12, tz13, u14, tz15, .pointer (some ⟨ms, 0, none⟩), .pointer (some ⟨blk j, 0, none⟩), tz18, .pointer (some ⟨pb, 0, none⟩), .pointer (some ⟨rb, 0, none⟩), tz21, tz22, .pointer (some ⟨ms, 0, none⟩), .pointer (some ⟨ms, 0, none⟩), tz25, tz26, tz27, tz28, tz29, tz30, tz31, tz32, tz33, tz34, tz35, tz36, tz37, tz38, tz39, tz40, tz41, tz42, tz43, tz44, tz45, tz46, tz47, tz48, tz49, tz50, tz51, tz52, tz53, tz54, tz55, tz56, tz57, tz58, tz59, tz60, tz61, tz62, tz63, tz64, tz65, tz66, tz67, tz68, tz69, tz70, tz71, tz72, tz73, tz74, tz75, tz76, tz77, tz78, tz79, tz80, tz81, tz82, tz83, tz84, tz85, tz86, tz87, tz88, tz89, tz90, tz91, tz92, tz93, tz94, tz95, tz96, tz97, tz98, tz99, tz100, tz101, tz102, tz103, tz104, tz105, tz106, tz107, tz108, tz109, tz110, tz111, tz112, tz113, tz114, tz115, tz116, tz117, tz118, tz119, tz120, tz121, tz122, tz123, tz124, tz125, tz126, tz127, tz128, tz129, tz130, tz131, tz132, tz133, tz134, tz135, tz136, tz137, tz138, tz139, tz140, tz141, tz142, tz143, tz144, tz145, tz146, tz147, .pointer (some ⟨ms, 0, none⟩), .int .i64 0, .bool false, tz151, .pointer (some ⟨blk j, 0, none⟩), .pointer (some ⟨ms, 0, none⟩), .bool true, u155, u156, u157, u158, .pointer (some ⟨ms, 0, none⟩), .pointer (some ⟨ms, 0, none⟩), .bool true, .pointer (some ⟨ms, 0, none⟩), .pointer (some ⟨ms, 0, none⟩), .pointer (some ⟨ms, 5, none⟩), .slice (some ⟨gb, 0, none⟩) 1 (1 + cg), .int .i64 1, .bool false, .bool false, .pointer (some ⟨ms, 0, none⟩), .pointer (some ⟨ms, 0, none⟩), .pointer (some ⟨ms, 5, none⟩), .slice (some ⟨gb, 0, none⟩) 1 (1 + cg), .pointer (some ⟨gb, 0, none⟩), .agg #[.int .u32 src, .int .u32 (n : Int)], .agg #[.int .u32 src, .int .u32 (n : Int)], .bool false, .bool false, u178, u179, u180, u181, u182, u183, tz184, tz185, tz186, tz187, tz188, tz189, tz190, tz191, tz192, tz193, tz194, tz195, tz196, tz197, tz198, tz199, tz200, tz201, tz202, tz203, tz204, tz205, tz206, tz207, tz208, tz209, tz210, tz211, tz212, tz213, tz214, tz215, tz216, tz217, tz218, tz219, tz220, tz221, tz222, tz223, tz224, tz225, tz226, tz227, tz228, tz229, tz230, tz231, tz232, tz233, tz234, tz235, tz236, tz237, tz238, tz239, tz240], []⟩ := by rw [← hfr]; kernel_rfl
    clear hfr
    subst hdf
    clear α
    subst hX9_1
    have hN : Own w0 u [row (ms) 38 MC, row (gb) 33 (full refZ ([.int .u32 src, .int .u32 (n : Int)]) cg), row (rb) 33 #[.int .u32 src, .int .u32 (n : Int)], row (pb) 176 PC, row (qb) 185 (full trfZ ([.nilIface, .int .i32 0, .int .u32 src, .int .u32 (n : Int)]) cq), row (mb) 38 #[.pointer none, .pointer none, .slice none 0 0, .map none, .slice none 0 0, .slice none 0 0, .int .i32 0, .int .i32 0, .int .u32 0, .int .u32 0, .bool false, .bool false, .bool false, .bool false, .int .u8 0, .int .u8 6]] X2 := hO.back HL.out HX.out [0, 2, 4] (by decide) (by decide)
    clear hO HL HX
    have hO := hN
    clear hN
    have hN : Own w0 u [row (ms) 38 MC, row (gb) 33 (full refZ [.int .u32 src, .int .u32 (n : Int)] cg), row (rb) 33 #[.int .u32 src, .int .u32 (n : Int)], row (pb) 176 PC, row (qb) 185 (full trfZ [.nilIface, .int .i32 0, .int .u32 src, .int .u32 (n : Int)] cq), row (mb) 38 #[.pointer none, .pointer none, .slice none 0 0, .map none, .slice none 0 0, .slice none 0 0, .int .i32 0, .int .i32 0, .int .u32 0, .int .u32 0, .bool false, .bool false, .bool false, .bool false, .int .u8 0, .int .u8 6]] X2 := hO
    clear hO
    have hO := hN
    clear hN
    obtain ⟨ix9, hix9, hax9, hjx9⟩ := hO.ix
    have ix9_0 : ix9 ms = 0 := hjx9 0 _ _ rfl
    have ix9_1 : ix9 gb = 1 := hjx9 1 _ _ rfl
    have ix9_2 : ix9 rb = 2 := hjx9 2 _ _ rfl
    have ix9_3 : ix9 pb = 3 := hjx9 3 _ _ rfl
    have ix9_4 : ix9 qb = 4 := hjx9 4 _ _ rfl
    have ix9_5 : ix9 mb = 5 := hjx9 5 _ _ rfl
    clear hjx9
    have pl9_0 : Base.plainAt u (ms) = true := hO.plain 0 rfl
    have c9_0_1 : u.cell? ⟨ms, 1, none⟩ = some (.pointer (some ⟨mb, 0, none⟩)) := hO.cell 0 rfl (1) (hm1)
    have c9_0_5 : u.cell? ⟨ms, 5, none⟩ = some (.slice (some ⟨gb, 0, none⟩) 1 (1 + cg)) := hO.cell 0 rfl (5) (hm5)
    have lt9_0 : ms < u.heap.size := hO.lt 0 rfl
    have y9_0 : ∀ o, u.frozen? ⟨ms, o, none⟩ = false := hO.free 0 rfl
    have pl9_1 : Base.plainAt u (gb) = true := hO.plain 1 rfl
    have c9_1_0 : u.cell? ⟨gb, 0, none⟩ = some (.int .u32 src) := hO.cell 1 rfl (0) ((full_at rfl))
    have c9_1_1 : u.cell? ⟨gb, 1, none⟩ = some (.int .u32 (n : Int)) := hO.cell 1 rfl (1) ((full_at rfl))
    have lt9_1 : gb < u.heap.size := hO.lt 1 rfl
    have y9_1 : ∀ o, u.frozen? ⟨gb, o, none⟩ = false := hO.free 1 rfl
    obtain ⟨c9_2_0, c9_2_1, lt9_2, y9_2, pl9_2⟩ := hO.k2 2 rfl
    have c9_3_198 : u.cell? ⟨pb, 198, none⟩ = some (.slice none 0 0) := hO.cell 3 rfl (198) (hk198)
    have c9_3_199 : u.cell? ⟨pb, 199, none⟩ = some (.slice (some ⟨qb, 0, none⟩) 1 (1 + cq)) := hO.cell 3 rfl (199) (hk199)
    have c9_3_200 : u.cell? ⟨pb, 200, none⟩ = some (.slice none 0 0) := hO.cell 3 rfl (200) (hk200)
    have c9_3_288 : u.cell? ⟨pb, 288, none⟩ = some (.int .i64 0) := hO.cell 3 rfl (288) (hk288)
    have lt9_3 : pb < u.heap.size := hO.lt 3 rfl
    have y9_3 : ∀ o, u.frozen? ⟨pb, o, none⟩ = false := hO.free 3 rfl
    have c9_4_0 : u.cell? ⟨qb, 0, none⟩ = some (.nilIface) := hO.cell 4 rfl (0) ((full_at rfl))
    have c9_4_1 : u.cell? ⟨qb, 1, none⟩ = some (.int .i32 0) := hO.cell 4 rfl (1) ((full_at rfl))
    have c9_4_2 : u.cell? ⟨qb, 2, none⟩ = some (.int .u32 src) := hO.cell 4 rfl (2) ((full_at rfl))
    have c9_4_3 : u.cell? ⟨qb, 3, none⟩ = some (.int .u32 (n : Int)) := hO.cell 4 rfl (3) ((full_at rfl))
    have lt9_4 : qb < u.heap.size := hO.lt 4 rfl
    have y9_4 : ∀ o, u.frozen? ⟨qb, o, none⟩ = false := hO.free 4 rfl
    have pl9_5 : Base.plainAt u (mb) = true := hO.plain 5 rfl
    have c9_5_1 : u.cell? ⟨mb, 1, none⟩ = some (.pointer none) := hO.cell 5 rfl (1) rfl
    have c9_5_5 : u.cell? ⟨mb, 5, none⟩ = some (.slice none 0 0) := hO.cell 5 rfl (5) rfl
    have lt9_5 : mb < u.heap.size := hO.lt 5 rfl
    have y9_5 : ∀ o, u.frozen? ⟨mb, o, none⟩ = false := hO.free 5 rfl
    have HO := Lib.hid hO
    clear hO
    go_wp2_with (first | (with_reducible refine Own.stay (fn := Tryd.f5) ?_) | (at_builtin; refine Own.appStop ?_) | fail)
    try with_reducible refine Own.Stay.mk ?_
    have hO := HO.out
    clear HO hix9 hax9 ix9_0 ix9_1 ix9_2 ix9_3 ix9_4 ix9_5 ix9 pl9_0 c9_0_1 c9_0_5 lt9_0 y9_0 pl9_1 c9_1_0 c9_1_1 lt9_1 y9_1 c9_2_0 c9_2_1 lt9_2 y9_2 pl9_2 c9_3_198 c9_3_199 c9_3_200 c9_3_288 lt9_3 y9_3 c9_4_0 c9_4_1 c9_4_2 c9_4_3 lt9_4 y9_4 pl9_5 c9_5_1 c9_5_5 lt9_5 y9_5
    have hN : Own w0 u [row (pb) 176 PC, row (ms) 38 MC, row (qb) 185 (full trfZ [.nilIface, .int .i32 0, .int .u32 src, .int .u32 (n : Int)] cq), row (gb) 33 (full refZ [.int .u32 src, .int .u32 (n : Int)] cg), row (mb) 38 #[.pointer none, .pointer none, .slice none 0 0, .map none, .slice none 0 0, .slice none 0 0, .int .i32 0, .int .i32 0, .int .u32 0, .int .u32 0, .bool false, .bool false, .bool false, .bool false, .int .u8 0, .int .u8 6], row (rb) 33 #[.int .u32 src, .int .u32 (n : Int)]] X2 := hO.sub [3, 0, 4, 1, 5, 2] (by decide)
    clear hO
    have hO := hN
    clear hN
    go_roundg gq
    case measure => omega
    case rel => exact ⟨Or.inr (Or.inl ⟨by omega, rfl⟩), hO⟩
  · skip
    obtain ⟨gq, rfl⟩ : ∃ gq, gk = gq + 1 := ⟨gk - 1, by omega⟩
    obtain ⟨ix9, hix9, hax9, hjx9⟩ := hO.ix
    have ix9_0 : ix9 pb = 0 := hjx9 0 _ _ rfl
    have ix9_1 : ix9 ms = 1 := hjx9 1 _ _ rfl
    have ix9_2 : ix9 qb = 2 := hjx9 2 _ _ rfl
    have ix9_3 : ix9 gb = 3 := hjx9 3 _ _ rfl
    have ix9_4 : ix9 mb = 4 := hjx9 4 _ _ rfl
    have ix9_5 : ix9 rb = 5 := hjx9 5 _ _ rfl
    clear hjx9
    have c9_0_198 : wr.cell? ⟨pb, 198, none⟩ = some (.slice none 0 0) := hO.cell 0 rfl (198) (hk198)
    have c9_0_199 : wr.cell? ⟨pb, 199, none⟩ = some (.slice (some ⟨qb, 0, none⟩) 1 (1 + cq)) := hO.cell 0 rfl (199) (hk199)
    have c9_0_200 : wr.cell? ⟨pb, 200, none⟩ = some (.slice none 0 0) := hO.cell 0 rfl (200) (hk200)
    have c9_0_288 : wr.cell? ⟨pb, 288, none⟩ = some (.int .i64 0) := hO.cell 0 rfl (288) (hk288)
    have lt9_0 : pb < wr.heap.size := hO.lt 0 rfl
    have y9_0 : ∀ o, wr.frozen? ⟨pb, o, none⟩ = false := hO.free 0 rfl
    have pl9_1 : Base.plainAt wr (ms) = true := hO.plain 1 rfl
    have c9_1_1 : wr.cell? ⟨ms, 1, none⟩ = some (.pointer (some ⟨mb, 0, none⟩)) := hO.cell 1 rfl (1) (hm1)
    have c9_1_5 : wr.cell? ⟨ms, 5, none⟩ = some (.slice (some ⟨gb, 0, none⟩) 1 (1 + cg)) := hO.cell 1 rfl (5) (hm5)
    have lt9_1 : ms < wr.heap.size := hO.lt 1 rfl
    have y9_1 : ∀ o, wr.frozen? ⟨ms, o, none⟩ = false := hO.free 1 rfl
    have c9_2_0 : wr.cell? ⟨qb, 0, none⟩ = some (.nilIface) := hO.cell 2 rfl (0) ((full_at rfl))
    have c9_2_1 : wr.cell? ⟨qb, 1, none⟩ = some (.int .i32 0) := hO.cell 2 rfl (1) ((full_at rfl))
    have c9_2_2 : wr.cell? ⟨qb, 2, none⟩ = some (.int .u32 src) := hO.cell 2 rfl (2) ((full_at rfl))
    have c9_2_3 : wr.cell? ⟨qb, 3, none⟩ = some (.int .u32 (n : Int)) := hO.cell 2 rfl (3) ((full_at rfl))
    have lt9_2 : qb < wr.heap.size := hO.lt 2 rfl
    have y9_2 : ∀ o, wr.frozen? ⟨qb, o, none⟩ = false := hO.free 2 rfl
    have pl9_3 : Base.plainAt wr (gb) = true := hO.plain 3 rfl
    have c9_3_0 : wr.cell? ⟨gb, 0, none⟩ = some (.int .u32 src) := hO.cell 3 rfl (0) ((full_at rfl))
    have c9_3_1 : wr.cell? ⟨gb, 1, none⟩ = some (.int .u32 (n : Int)) := hO.cell 3 rfl (1) ((full_at rfl))
    have lt9_3 : gb < wr.heap.size := hO.lt 3 rfl
    have y9_3 : ∀ o, wr.frozen? ⟨gb, o, none⟩ = false := hO.free 3 rfl
    have pl9_4 : Base.plainAt wr (mb) = true := hO.plain 4 rfl
    have c9_4_1 : wr.cell? ⟨mb, 1, none⟩ = some (.pointer none) := hO.cell 4 rfl (1) rfl
    have c9_4_5 : wr.cell? ⟨mb, 5, none⟩ = some (.slice none 0 0) := hO.cell 4 rfl (5) rfl
    have lt9_4 : mb < wr.heap.size := hO.lt 4 rfl
    have y9_4 : ∀ o, wr.frozen? ⟨mb, o, none⟩ = false := hO.free 4 rfl
    obtain ⟨c9_5_0, c9_5_1, lt9_5, y9_5, pl9_5⟩ := hO.k2 5 rfl
    have HO := Lib.hid hO
    clear hO
    go_wp2_with (first | (with_reducible refine Own.stay (fn := Tryd.f5) ?_) | (at_builtin; refine Own.appStop ?_) | fail)
    try with_reducible refine Own.Stay.mk ?_
    have hO := HO.out
    clear HO hix9 hax9 ix9_0 ix9_1 ix9_2 ix9_3 ix9_4 ix9_5 ix9 c9_0_198 c9_0_199 c9_0_200 c9_0_288 lt9_0 y9_0 pl9_1 c9_1_1 c9_1_5 lt9_1 y9_1 c9_2_0 c9_2_1 c9_2_2 c9_2_3 lt9_2 y9_2 pl9_3 c9_3_0 c9_3_1 lt9_3 y9_3 pl9_4 c9_4_1 c9_4_5 lt9_4 y9_4 c9_5_0 c9_5_1 lt9_5 y9_5 pl9_5
    have hN : Own w0 wr [row (pb) 176 PC, row (ms) 38 MC, row (qb) 185 (full trfZ ([.nilIface, .int .i32 0, .int .u32 src, .int .u32 (n : Int)]) cq), row (gb) 33 (full refZ ([.int .u32 src, .int .u32 (n : Int)]) cg), row (mb) 38 #[.pointer none, .pointer none, .slice none 0 0, .map none, .slice none 0 0, .slice none 0 0, .int .i32 0, .int .i32 0, .int .u32 0, .int .u32 0, .bool false, .bool false, .bool false, .bool false, .int .u8 0, .int .u8 6], row (rb) 33 #[.int .u32 src, .int .u32 (n : Int)]] X2 := hO.sub [0, 1, 2, 3, 4, 5] (by decide)
    clear hO
    have hO := hN
    clear hN
    go_roundg gq
    case measure => omega
    case rel => exact ⟨Or.inr (Or.inr (⟨by omega, rfl⟩)), hO⟩
  have c9_4_1 : wr.cell? ⟨mb, 1, none⟩ = some (.pointer none) := hO.cell 4 rfl (1) rfl
  have c9_4_5 : wr.cell? ⟨mb, 5, none⟩ = some (.slice none 0 0) := hO.cell 4 rfl (5) rfl
  have lt9_4 : mb < wr.heap.size := hO.lt 4 rfl
  have y9_4 : ∀ o, wr.frozen? ⟨mb, o, none⟩ = false := hO.free 4 rfl
  obtain ⟨c9_5_0, c9_5_1, lt9_5, y9_5, -⟩ := hO.k2 5 rfl
  have HO := Lib.hid hO
  clear hO
  go_wp2_with (first | (with_reducible refine Own.stay (fn := Tryd.f5) ?_) | (at_builtin; refine Own.appStop ?_) | fail)
  try with_reducible refine Own.Stay.mk ?_
  have hO := HO.out
  clear HO c9_4_1 c9_4_5 lt9_4 y9_4 c9_5_0 c9_5_1 lt9_5 y9_5
  have hL := hO.apart
  have hX := hO.apartX
  have HL := Lib.hid hL
  have HX := Lib.hid hX
  clear hL hX
  have hP9 := hO.pick [0] (by decide)
  have T9 := tmpLets0 pb PC _ _ _ hP9 hk198
  refine Calls.mono T9 ?_
  clear hP9 T9
  rintro e uw2 ⟨rfl, hQ⟩
  have hN : Own w0 uw2 [row (pb) 176 PC, row (ms) 38 MC, row (qb) 185 (full trfZ [.nilIface, .int .i32 0, .int .u32 src, .int .u32 (n : Int)] cq), row (gb) 33 (full refZ [.int .u32 src, .int .u32 (n : Int)] cg), row (mb) 38 #[.pointer none, .pointer none, .slice none 0 0, .map none, .slice none 0 0, .slice none 0 0, .int .i32 0, .int .i32 0, .int .u32 0, .int .u32 0, .bool false, .bool false, .bool false, .bool false, .int .u8 0, .int .u8 6], row (rb) 33 #[.int .u32 src, .int .u32 (n : Int)]] X2 := hQ.back HL.out HX.out [1, 2, 3, 4, 5] (by decide) (by decide)
  clear hQ HL HX hO
  have hO := hN
  clear hN
  try simp only []
  have c9_4_1 : uw2.cell? ⟨mb, 1, none⟩ = some (.pointer none) := hO.cell 4 rfl (1) rfl
  have c9_4_5 : uw2.cell? ⟨mb, 5, none⟩ = some (.slice none 0 0) := hO.cell 4 rfl (5) rfl
  have lt9_4 : mb < uw2.heap.size := hO.lt 4 rfl
  have y9_4 : ∀ o, uw2.frozen? ⟨mb, o, none⟩ = false := hO.free 4 rfl
  obtain ⟨c9_5_0, c9_5_1, lt9_5, y9_5, -⟩ := hO.k2 5 rfl
  have HO := Lib.hid hO
  clear hO
  go_wp2_with (first | (with_reducible refine Own.stay (fn := Tryd.f5) ?_) | (at_builtin; refine Own.appStop ?_) | fail)
  try with_reducible refine Own.Stay.mk ?_
  have hO := HO.out
  clear HO c9_4_1 c9_4_5 lt9_4 y9_4 c9_5_0 c9_5_1 lt9_5 y9_5
  have hL := hO.apart
  have hX := hO.apartX
  have HL := Lib.hid hL
  have HX := Lib.hid hX
  clear hL hX
  have hP9 := hO.pick [0, 2] (by decide)
  have T9 := tmpRefs8 pb PC src n qb cq _ _ _ hP9 hk199
  refine Calls.mono T9 ?_
  clear hP9 T9
  rintro e uw3 ⟨nd4, nd5, rfl, hQ⟩
  have hN : Own w0 uw3 [row (pb) 176 PC, row (qb) 185 (full trfZ [.nilIface, .int .i32 0, .int .u32 src, .int .u32 (n : Int)] cq), row (nd4) 33 (full refZ [.int .u32 src, .int .u32 (n : Int)] nd5), row (ms) 38 MC, row (gb) 33 (full refZ [.int .u32 src, .int .u32 (n : Int)] cg), row (mb) 38 #[.pointer none, .pointer none, .slice none 0 0, .map none, .slice none 0 0, .slice none 0 0, .int .i32 0, .int .i32 0, .int .u32 0, .int .u32 0, .bool false, .bool false, .bool false, .bool false, .int .u8 0, .int .u8 6], row (rb) 33 #[.int .u32 src, .int .u32 (n : Int)]] X2 := hQ.back HL.out HX.out [1, 3, 4, 5] (by decide) (by decide)
  clear hQ HL HX hO
  have hO := hN
  clear hN
  try simp only []
  have c9_5_1 : uw3.cell? ⟨mb, 1, none⟩ = some (.pointer none) := hO.cell 5 rfl (1) rfl
  have c9_5_5 : uw3.cell? ⟨mb, 5, none⟩ = some (.slice none 0 0) := hO.cell 5 rfl (5) rfl
  have lt9_5 : mb < uw3.heap.size := hO.lt 5 rfl
  have y9_5 : ∀ o, uw3.frozen? ⟨mb, o, none⟩ = false := hO.free 5 rfl
  obtain ⟨c9_6_0, c9_6_1, lt9_6, y9_6, -⟩ := hO.k2 6 rfl
  have HO := Lib.hid hO
  clear hO
  go_wp2_with (first | (with_reducible refine Own.stay (fn := Tryd.f5) ?_) | (at_builtin; refine Own.appStop ?_) | fail)
  try with_reducible refine Own.Stay.mk ?_
  have hO := HO.out
  clear HO c9_5_1 c9_5_5 lt9_5 y9_5 c9_6_0 c9_6_1 lt9_6 y9_6
  have hL := hO.apart
  have hX := hO.apartX
  have HL := Lib.hid hL
  have HX := Lib.hid hX
  clear hL hX
  have hP9 := hO.pick [2, 6] (by decide)
  generalize hX9_6 : Own.Rest _ _ X2 = X9_6 at hP9
  replace hP9 : Own w0 uw3 [row (nd4) 33 (full refZ [.int .u32 src, .int .u32 (n : Int)] nd5), row (rb) 33 #[.int .u32 src, .int .u32 (n : Int)]] X9_6 := hP9
  clear hO
  have hO := hP9
  clear hP9
  have st9 := rtl48Ae3_st rb src n nd4 nd5
  let R9 := rtl48Ae3R rb src n nd4 nd5
  refine wp_region_own (e := rtl48Ae3E rb src n nd4 nd5) (anc := rtl48Ae3Anc) (G := (fun L9 α u9 => OwnF w0 u9 (act rtl48Ae3Cnt 2 L9) (rtl48Ae3R rb src n nd4 nd5 L9 α) X9_6)) (by kernel_rfl) (by kernel_rfl) (by kernel_rfl) (by kernel_rfl) (rtl48Ae3_he rb src n nd4 nd5) ?_ (RunsAll.all ?_) ?_
  · have hp : ∀ i, act rtl48Ae3Cnt 2 (fun _ => false) i → i ∈ [999, 1999] := by
      intro i hi
      have h9 : i % 1000 = 999 := by
        by_cases h : i % 1000 = 999
        · exact h
        · exact absurd (act_lt hi h) (by simp)
      unfold act at hi
      rw [if_pos h9] at hi
      simp only [List.mem_cons, List.not_mem_nil, or_false]
      omega
    refine hO.drew.family (fun i hi => ?_) (fun i j hi hj hij => ?_)
    · have := hp i hi
      simp only [List.mem_cons, List.not_mem_nil, or_false] at this
      rcases this with rfl | rfl <;> rfl
    · have h1 := hp i hi
      have h2 := hp j hj
      simp only [List.mem_cons, List.not_mem_nil, or_false] at h1 h2
      omega
  · refine ⟨?_, ?_, ?_, ?_, ?_, ?_, ?_, ?_, ?_, ?_, trivial⟩
    · intro L9 α a9 u9 K9 hL hcl hA hG hS h0 hK
      replace hL : L9 0 = false := hL
      have q28 : a9.tmps[28]? = some (.slice (some ⟨nd4, 0, none⟩) 1 (1 + nd5)) := (h0 28 (by kernel_rfl)).trans rfl
      have s28 := Rega.eval_of q28
      go_simp
      exact hK _ α _ (fun _ _ => rfl) rfl (step_same (st9) hL hcl rfl rfl hG)
    · intro L9 α a9 u9 K9 hL hcl hA hG hS h0 hK
      replace hL : L9 1 = false := hL
      have q219 : a9.tmps[219]? = some (.slice (some ⟨nd4, 0, none⟩) 1 (1 + nd5)) := hS 0 219 (by decide) rfl (by show 219 < 241; decide)
      have s219 := Rega.eval_of q219
      go_simp
      exact hK _ α _ (fun _ _ => rfl) rfl (step_same (st9) hL hcl rfl rfl hG)
    · intro L9 α a9 u9 K9 hL hcl hA hG hS h0 hK
      replace hL : L9 2 = false := hL
      have q220 : a9.tmps[220]? = some (.int .i64 1) := hS 1 220 (by decide) rfl (by show 220 < 241; decide)
      have s220 := Rega.eval_of q220
      go_simp
      exact hK _ α _ (fun _ _ => rfl) rfl (step_same (st9) hL hcl rfl rfl hG)
    · intro L9 α a9 u9 K9 hL hcl hA hG hS h0 hK
      replace hL : L9 3 = false := hL
      have q221 : a9.tmps[221]? = some (.bool false) := hS 2 221 (by decide) rfl (by show 221 < 241; decide)
      have s221 := Rega.eval_of q221
      go_simp
      exact hK _ α _ (fun _ _ => rfl) rfl (step_same (st9) hL hcl rfl rfl hG)
    · intro L9 α a9 u9 K9 hL hcl hA hG hS h0 hK
      replace hL : L9 4 = false := hL
      have q28 : a9.tmps[28]? = some (.slice (some ⟨nd4, 0, none⟩) 1 (1 + nd5)) := (h0 28 (by kernel_rfl)).trans rfl
      have s28 := Rega.eval_of q28
      have q222 : a9.tmps[222]? = some (.bool false) := hS 3 222 (by decide) rfl (by show 222 < 241; decide)
      have s222 := Rega.eval_of q222
      go_simp
      exact hK _ α _ (fun _ _ => rfl) rfl (step_same (st9) hL hcl rfl rfl hG)
    · intro L9 α a9 u9 K9 hL hcl hA hG hS h0 hK
      replace hL : L9 5 = false := hL
      have q223 : a9.tmps[223]? = some (.slice (some ⟨nd4, 0, none⟩) 1 (1 + nd5)) := hS 4 223 (by decide) rfl (by show 223 < 241; decide)
      have s223 := Rega.eval_of q223
      have q222 : a9.tmps[222]? = some (.bool false) := hS 3 222 (by decide) rfl (by show 222 < 241; decide)
      have s222 := Rega.eval_of q222
      go_simp
      exact hK _ α _ (fun _ _ => rfl) rfl (step_same (st9) hL hcl rfl rfl hG)
    · intro L9 α a9 u9 K9 hL hcl hA hG hS h0 hK
      replace hL : L9 6 = false := hL
      have q224 : a9.tmps[224]? = some (.pointer (some ⟨nd4, 0, none⟩)) := hS 5 224 (by decide) rfl (by show 224 < 241; decide)
      have s224 := Rega.eval_of q224
      have q222 : a9.tmps[222]? = some (.bool false) := hS 3 222 (by decide) rfl (by show 222 < 241; decide)
      have s222 := Rega.eval_of q222
      have e0 : R9 L9 α 999 = row (nd4) 33 (full refZ [.int .u32 src, .int .u32 (n : Int)] nd5) := rfl
      have hr := hG.rowAt 999 (act_base 999 rfl) e0
      have c0 : u9.cell? ⟨nd4, 0, none⟩ = some (.int .u32 src) := hr.cell ((full_at rfl))
      have c1 : u9.cell? ⟨nd4, 1, none⟩ = some (.int .u32 (n : Int)) := hr.cell ((full_at rfl))
      clear hr e0
      go_simp
      exact hK _ α _ (fun _ _ => rfl) rfl (step_same (st9) hL hcl rfl rfl hG)
    · intro L9 α a9 u9 K9 hL hcl hA hG hS h0 hK
      replace hL : L9 7 = false := hL
      have q20 : a9.tmps[20]? = some (.pointer (some ⟨rb, 0, none⟩)) := (h0 20 (by kernel_rfl)).trans rfl
      have s20 := Rega.eval_of q20
      have q222 : a9.tmps[222]? = some (.bool false) := hS 3 222 (by decide) rfl (by show 222 < 241; decide)
      have s222 := Rega.eval_of q222
      have e0 : R9 L9 α 1999 = row (rb) 33 #[.int .u32 src, .int .u32 (n : Int)] := rfl
      have hr := hG.rowAt 1999 (act_base 1999 rfl) e0
      have c0 : u9.cell? ⟨rb, 0, none⟩ = some (.int .u32 src) := hr.cell rfl
      have c1 : u9.cell? ⟨rb, 1, none⟩ = some (.int .u32 (n : Int)) := hr.cell rfl
      clear hr e0
      go_simp
      exact hK _ α _ (fun _ _ => rfl) rfl (step_same (st9) hL hcl rfl rfl hG)
    · intro L9 α a9 u9 K9 hL hcl hA hG hS h0 hK
      replace hL : L9 8 = false := hL
      have q225 : a9.tmps[225]? = some (.agg #[.int .u32 src, .int .u32 (n : Int)]) := hS 6 225 (by decide) rfl (by show 225 < 241; decide)
      have s225 := Rega.eval_of q225
      have q226 : a9.tmps[226]? = some (.agg #[.int .u32 src, .int .u32 (n : Int)]) := hS 7 226 (by decide) rfl (by show 226 < 241; decide)
      have s226 := Rega.eval_of q226
      have q222 : a9.tmps[222]? = some (.bool false) := hS 3 222 (by decide) rfl (by show 222 < 241; decide)
      have s222 := Rega.eval_of q222
      go_simp
      exact hK _ α _ (fun _ _ => rfl) rfl (step_same (st9) hL hcl rfl rfl hG)
    · intro L9 α a9 u9 K9 hL hcl hA hG hS h0 hK
      replace hL : L9 9 = false := hL
      have q222 : a9.tmps[222]? = some (.bool false) := hS 3 222 (by decide) rfl (by show 222 < 241; decide)
      have s222 := Rega.eval_of q222
      have q227 : a9.tmps[227]? = some (.bool false) := hS 8 227 (by decide) rfl (by show 227 < 241; decide)
      have s227 := Rega.eval_of q227
      go_simp
      exact hK _ α _ (fun _ _ => rfl) rfl (step_same (st9) hL hcl rfl rfl hG)
  clear st9
  intro α u hG
  have e0 : R9 (fun k => decide (k < 10)) α 999 = row (nd4) 33 (full refZ [.int .u32 src, .int .u32 (n : Int)] nd5) := rfl
  have e1 : R9 (fun k => decide (k < 10)) α 1999 = row (rb) 33 #[.int .u32 src, .int .u32 (n : Int)] := rfl
  have hO : Own w0 u [row (nd4) 33 (full refZ [.int .u32 src, .int .u32 (n : Int)] nd5), row (rb) 33 #[.int .u32 src, .int .u32 (n : Int)]] X9_6 := (hG.list [999, 1999] (by decide) (act_all (by decide))).conv (by
    show [R9 (fun k => decide (k < 10)) α 999, R9 (fun k => decide (k < 10)) α 1999] = _
    rw [e0, e1])
  clear hG e0 e1 R9
  generalize hfr : Rega.frameAt _ _ _ _ _ = fr
  have hdf : fr = ⟨#[tz0, tz1, .int .i64 0, tz3, tz4, tz5, tz6, tz7, tz8, tz9, tz10, tz11, tz12, tz13, u14, tz15, .pointer (some ⟨ms, 0, none⟩), .pointer (some ⟨blk j, 0, none⟩), tz18, .pointer (some ⟨pb, 0, none⟩), .pointer (some ⟨rb, 0, none⟩), tz21, tz22, .pointer (some ⟨ms, 0, none⟩), .pointer none, .bool false, .bool true, .slice none 0 0, .slice (some ⟨nd4, 0, none⟩) 1 (1 + nd5), tz29, tz30, tz31, tz32, tz33, tz34, tz35, tz36, tz37, tz38, tz39, tz40, tz41, tz42, tz43, tz44, tz45, tz46, tz47, tz48, tz49, tz50, tz51, tz52, tz53, tz54, tz55, tz56, tz57, tz58, tz59, tz60, tz61, tz62, tz63, tz64, tz65, tz66, tz67, tz68, tz69, tz70, tz71, tz72, tz73, tz74, tz75, tz76, tz77, tz78, tz79, tz80, tz81, tz82, tz83, tz84, tz85, tz86, tz87, tz88, tz89, tz90, tz91, tz92, tz93, tz94, tz95, tz96, tz97, tz98, tz99, tz100, tz101, tz102, tz103, tz104, tz105, tz106, tz107, tz108, tz109, tz110, tz111, tz112, tz113, tz114, tz115, tz116, tz117, tz118, tz119, tz120, tz121, tz122, tz123, tz124, tz125, tz126, tz127, tz128, tz129, tz130, tz131, tz132, tz133, tz134, tz135, tz136, tz137, tz138, tz139, tz140, tz141, tz142, tz143, tz144, tz145, tz146, tz147, .pointer (some ⟨ms, 0, none⟩), .int .i64 0, .bool false, tz151, .pointer (some ⟨blk j, 0, none⟩), .pointer none, .bool false, u155, u156, u157, u158, u159, u160, u161, u162, u163, u164, u165, u166, u167, u168, u169, u170, u171, u172, u173, u174, u175, u176, u177, u178, u179, u180, u181, u182, u183, .int .i64 0, .bool false, .bool false, undef, undef, .bool false, .int .i64 0, .bool true, .bool true, undef, undef, undef, undef, undef, undef, .bool true, .pointer (some ⟨pb, 0, none⟩), .slice none 0 0, .pointer (some ⟨pb, 0, none⟩), .slice (some ⟨nd4, 0, none⟩) 1 (1 + nd5), .bool false, tz205, tz206, tz207, tz208, tz209, tz210, tz211, tz212, tz213, tz214, .slice none 0 0, .int .i64 0, .bool false, .bool true, .slice (some ⟨nd4, 0, none⟩) 1 (1 + nd5), .int .i64 1, .bool false, .bool false, .slice (some ⟨nd4, 0, none⟩) 1 (1 + nd5), .pointer (some ⟨nd4, 0, none⟩), .agg #[.int .u32 src, .int .u32 (n : Int)], .agg #[.int .u32 src, .int .u32 (n : Int)], .bool false, .bool false, tz229, tz230, tz231, tz232, tz233, tz234, tz235, tz236, tz237, tz238, tz239, tz240], []⟩ := by rw [← hfr]; kernel_rfl
  clear hfr
  subst hdf
  clear α
  subst hX9_6
  have hN : Own w0 u [row (nd4) 33 (full refZ [.int .u32 src, .int .u32 (n : Int)] nd5), row (rb) 33 #[.int .u32 src, .int .u32 (n : Int)], row (pb) 176 PC, row (qb) 185 (full trfZ [.nilIface, .int .i32 0, .int .u32 src, .int .u32 (n : Int)] cq), row (ms) 38 MC, row (gb) 33 (full refZ [.int .u32 src, .int .u32 (n : Int)] cg), row (mb) 38 #[.pointer none, .pointer none, .slice none 0 0, .map none, .slice none 0 0, .slice none 0 0, .int .i32 0, .int .i32 0, .int .u32 0, .int .u32 0, .bool false, .bool false, .bool false, .bool false, .int .u8 0, .int .u8 6]] X2 := hO.back HL.out HX.out [0, 1, 3, 4, 5] (by decide) (by decide)
  clear hO HL HX
  have hO := hN
  clear hN
  obtain ⟨c9_1_0, c9_1_1, lt9_1, y9_1, -⟩ := hO.k2 1 rfl
  have c9_6_1 : u.cell? ⟨mb, 1, none⟩ = some (.pointer none) := hO.cell 6 rfl (1) rfl
  have c9_6_5 : u.cell? ⟨mb, 5, none⟩ = some (.slice none 0 0) := hO.cell 6 rfl (5) rfl
  have lt9_6 : mb < u.heap.size := hO.lt 6 rfl
  have y9_6 : ∀ o, u.frozen? ⟨mb, o, none⟩ = false := hO.free 6 rfl
  have HO := Lib.hid hO
  clear hO
  go_wp2_with (first | (with_reducible refine Own.stay (fn := Tryd.f5) ?_) | (at_builtin; refine Own.appStop ?_) | fail)
  try with_reducible refine Own.Stay.mk ?_
  have hO := HO.out
  clear HO c9_1_0 c9_1_1 lt9_1 y9_1 c9_6_1 c9_6_5 lt9_6 y9_6
  have hL := hO.apart
  have hX := hO.apartX
  have HL := Lib.hid hL
  have HX := Lib.hid hX
  clear hL hX
  have hP9 := hO.pick [2] (by decide)
  have T9 := topRefs0 pb PC _ _ _ hP9 hk200
  refine Calls.mono T9 ?_
  clear hP9 T9
  rintro e uw7 ⟨nd8, rfl, hQ⟩
  have hN : Own w0 uw7 [row (pb) 176 PC, row (nd4) 33 (full refZ [.int .u32 src, .int .u32 (n : Int)] nd5), row (rb) 33 #[.int .u32 src, .int .u32 (n : Int)], row (qb) 185 (full trfZ [.nilIface, .int .i32 0, .int .u32 src, .int .u32 (n : Int)] cq), row (ms) 38 MC, row (gb) 33 (full refZ [.int .u32 src, .int .u32 (n : Int)] cg), row (mb) 38 #[.pointer none, .pointer none, .slice none 0 0, .map none, .slice none 0 0, .slice none 0 0, .int .i32 0, .int .i32 0, .int .u32 0, .int .u32 0, .bool false, .bool false, .bool false, .bool false, .int .u8 0, .int .u8 6]] X2 := hQ.back HL.out HX.out [0, 1, 3, 4, 5, 6] (by decide) (by decide)
  clear hQ HL HX hO
  have hO := hN
  clear hN
  try simp only []
  obtain ⟨c9_2_0, c9_2_1, lt9_2, y9_2, -⟩ := hO.k2 2 rfl
  have c9_6_1 : uw7.cell? ⟨mb, 1, none⟩ = some (.pointer none) := hO.cell 6 rfl (1) rfl
  have c9_6_5 : uw7.cell? ⟨mb, 5, none⟩ = some (.slice none 0 0) := hO.cell 6 rfl (5) rfl
  have lt9_6 : mb < uw7.heap.size := hO.lt 6 rfl
  have y9_6 : ∀ o, uw7.frozen? ⟨mb, o, none⟩ = false := hO.free 6 rfl
  have HO := Lib.hid hO
  clear hO
  go_wp2_with (first | (with_reducible refine Own.stay (fn := Tryd.f5) ?_) | (at_builtin; refine Own.appStop ?_) | fail)
  try with_reducible refine Own.Stay.mk ?_
  have hO := HO.out
  clear HO c9_2_0 c9_2_1 lt9_2 y9_2 c9_6_1 c9_6_5 lt9_6 y9_6
  have hL := hO.apart
  have hX := hO.apartX
  have HL := Lib.hid hL
  have HX := Lib.hid hX
  clear hL hX
  have hP9 := hO.pick [0] (by decide)
  have T9 := topCnt pb PC 0 _ _ _ hP9 hk288
  refine Calls.mono T9 ?_
  clear hP9 T9
  rintro e uw9 ⟨rfl, hQ⟩
  have hN : Own w0 uw9 [row (pb) 176 PC, row (nd4) 33 (full refZ [.int .u32 src, .int .u32 (n : Int)] nd5), row (rb) 33 #[.int .u32 src, .int .u32 (n : Int)], row (qb) 185 (full trfZ [.nilIface, .int .i32 0, .int .u32 src, .int .u32 (n : Int)] cq), row (ms) 38 MC, row (gb) 33 (full refZ [.int .u32 src, .int .u32 (n : Int)] cg), row (mb) 38 #[.pointer none, .pointer none, .slice none 0 0, .map none, .slice none 0 0, .slice none 0 0, .int .i32 0, .int .i32 0, .int .u32 0, .int .u32 0, .bool false, .bool false, .bool false, .bool false, .int .u8 0, .int .u8 6]] X2 := hQ.back HL.out HX.out [1, 2, 3, 4, 5, 6] (by decide) (by decide)
  clear hQ HL HX hO
  have hO := hN
  clear hN
  try simp only []
  obtain ⟨c9_2_0, c9_2_1, lt9_2, y9_2, -⟩ := hO.k2 2 rfl
  have c9_6_1 : uw9.cell? ⟨mb, 1, none⟩ = some (.pointer none) := hO.cell 6 rfl (1) rfl
  have c9_6_5 : uw9.cell? ⟨mb, 5, none⟩ = some (.slice none 0 0) := hO.cell 6 rfl (5) rfl
  have lt9_6 : mb < uw9.heap.size := hO.lt 6 rfl
  have y9_6 : ∀ o, uw9.frozen? ⟨mb, o, none⟩ = false := hO.free 6 rfl
  have HO := Lib.hid hO
  clear hO
  go_wp2_with (first | (with_reducible refine Own.stay (fn := Tryd.f5) ?_) | (at_builtin; refine Own.appStop ?_) | fail)
  try with_reducible refine Own.Stay.mk ?_
  have hO := HO.out
  clear HO c9_2_0 c9_2_1 lt9_2 y9_2 c9_6_1 c9_6_5 lt9_6 y9_6
  have hN := (hO.sub [] (by decide)).reframe HXX.out
  clear hO
  have hO : Own w0 uw9 [] X := hN
  refine bodyPost_ret (v := .bool true) ?_ rfl ⟨rfl, hO.sub [] (by decide)⟩
  simp [results, go_sem]
end Go.Proofs.YtkmojepgbbdeiaaDoor.Use
