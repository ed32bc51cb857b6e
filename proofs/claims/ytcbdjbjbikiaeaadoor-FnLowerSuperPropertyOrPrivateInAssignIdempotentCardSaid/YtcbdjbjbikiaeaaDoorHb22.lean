/- Row 22: the rest of the law's code. No condition. -/
import Derived.Test.YtcbdjbjbikiaeaaDoorIta
import Derived.Test.YtcbdjbjbikiaeaaDoorNdt
import Derived.Test.YtcbdjbjbikiaeaaDoorItm
import Derived.Test.YtcbdjbjbikiaeaaDoorOwn
import Derived.Test.YtcbdjbjbikiaeaaDoorOwnK
import Derived.Test.YtcbdjbjbikiaeaaDoorLoop
import Derived.Test.YtcbdjbjbikiaeaaDoorApp
import Derived.Test.YtcbdjbjbikiaeaaDoorDeepCells
import Derived.Test.YtcbdjbjbikiaeaaDoorRows
import Derived.Test.YtcbdjbjbikiaeaaDoorDead
namespace Go.Proofs.YtcbdjbjbikiaeaaDoor.Use
open Go.ChangeShapes Go.WideShapes Go.ChangeAt Go.RowKit Go.Sort Own
set_option linter.unusedVariables false
def cutC : Nat → Code → Code
  | 0, c => c
  | n + 1, .seq _ b => cutC n b
  | _, c => c
noncomputable def rest22a : Code := cutC 9 (Tryd.f6.body.getD .skip)
def Hb22a (l : Bool) (r : Bool) (s : Bool) (n : Nat) (nm : ByteArray) (w0 : World) (X : Nat → Obj → Prop) (Q : Exit → Act → World → Prop) : Prop :=
  ∀ (pb mp cr ea it ra : Nat) (PC : Array Value) (D : Dm) (Y : Nat → Obj → Prop) ⦃uz0 uz1 uz2 uz3 uz4 uz5 uz6 uz7 uz8 uz9 uz10 uz14 uz17 uz18 uz19 uz20 uz21 uz22 uz23 uz24 uz25 uz26 uz27 uz28 uz29 uz30 uz31 uz32 uz33 uz34 uz35 uz36 uz37 uz38 uz39 uz40 uz41 uz42 uz43 uz44 uz45 uz46 uz47 uz48 uz49 uz50 uz51 uz52 uz53 uz54 uz55 uz56 uz57 uz58 uz59 uz60 uz61 uz62 uz63 uz64 uz65 uz66 uz67 uz68 uz69 uz70 uz71 uz72 uz73 uz74 uz75 uz76 uz77 uz78 uz79 uz80 uz81 uz82 uz83 uz84 uz85 uz86 uz87 uz88 uz89 uz90 uz91 uz92 uz93 uz94 uz95 uz96 uz97 uz98 uz99 uz100 uz101 uz102 uz103 uz104 uz105 uz106 uz107 uz108 uz109 uz110 uz111 uz112 uz113 uz114 uz115 uz116 uz117 uz118 uz119 uz120 uz121 uz122 uz123 uz124 uz125 uz126 uz127 uz128 uz129 uz130 uz131 uz132 uz133 uz134 uz135 uz136 uz137 uz138 uz139 uz140 uz141 uz142 uz143 uz144 uz145 uz146 uz147 uz148 uz149 uz150 uz151 uz152 uz153 uz154 uz155 uz156 uz157 uz158 uz159 uz160 uz161 uz162 uz163 uz164 uz165 uz166 uz167 uz168 uz169 uz170 uz171 uz172 uz173 uz174 uz175 uz176 uz177 : Value⦄ ⦃w2 : World⦄, (Dead PC mp cr r s) → (PC[338]? = some (.bool l)) → (n ≤ 4096) → (nm.size ≤ 1048576) → (∀ i : Nat, i < n → RawI Y D nm i) → (∀ i : Nat, i < n → D.kd i < 6) → (SepT Y D n) → (InjT D n) → Own w0 w2 [row (pb) 206 PC, ((mp, .map #[⟨.string ⟨#[95, 95, 115, 117, 112, 101, 114, 87, 114, 97, 112, 112, 101, 114]⟩, .agg #[.int .i32 0, .int .u32 0, .int .u32 2], 0⟩, ⟨.string ⟨#[95, 95, 115, 117, 112, 101, 114, 71, 101, 116]⟩, .agg #[.int .i32 0, .int .u32 0, .int .u32 3], 1⟩, ⟨.string ⟨#[95, 95, 112, 114, 105, 118, 97, 116, 101, 87, 114, 97, 112, 112, 101, 114]⟩, .agg #[.int .i32 0, .int .u32 0, .int .u32 4], 2⟩] 3) : Rw), row (cr) 68 #[.int .u32 0, .int .u32 1], row (ea) 65 #[.slice (some ⟨it, 0, none⟩) n n, .int .i32 0, .int .i32 0, .bool false, .bool false], row (it) 30 (itR (vT1 D 0) (vB1 D (fun _ => 0) 0) n 0), row (ra) 30 #[.iface 62 (.pointer (some ⟨ea, 0, none⟩)), .int .i32 (-1)]] (NodT Y D (fun _ => 0) 0 n) → Code.wp Tryd.prog rest22a Q ⟨#[uz0, uz1, uz2, uz3, uz4, uz5, uz6, uz7, uz8, uz9, uz10, .int .i64 (n : Int), .pointer (some ⟨pb, 0, none⟩), .slice (some ⟨it, 0, none⟩) n n, uz14, .pointer (some ⟨ra, 0, none⟩), .pointer (some ⟨ea, 0, none⟩), uz17, uz18, uz19, uz20, uz21, uz22, uz23, uz24, uz25, uz26, uz27, uz28, uz29, uz30, uz31, uz32, uz33, uz34, uz35, uz36, uz37, uz38, uz39, uz40, uz41, uz42, uz43, uz44, uz45, uz46, uz47, uz48, uz49, uz50, uz51, uz52, uz53, uz54, uz55, uz56, uz57, uz58, uz59, uz60, uz61, uz62, uz63, uz64, uz65, uz66, uz67, uz68, uz69, uz70, uz71, uz72, uz73, uz74, uz75, uz76, uz77, uz78, uz79, uz80, uz81, uz82, uz83, uz84, uz85, uz86, uz87, uz88, uz89, uz90, uz91, uz92, uz93, uz94, uz95, uz96, uz97, uz98, uz99, uz100, uz101, uz102, uz103, uz104, uz105, uz106, uz107, uz108, uz109, uz110, uz111, uz112, uz113, uz114, uz115, uz116, uz117, uz118, uz119, uz120, uz121, uz122, uz123, uz124, uz125, uz126, uz127, uz128, uz129, uz130, uz131, uz132, uz133, uz134, uz135, uz136, uz137, uz138, uz139, uz140, uz141, uz142, uz143, uz144, uz145, uz146, uz147, uz148, uz149, uz150, uz151, uz152, uz153, uz154, uz155, uz156, uz157, uz158, uz159, uz160, uz161, uz162, uz163, uz164, uz165, uz166, uz167, uz168, uz169, uz170, uz171, uz172, uz173, uz174, uz175, uz176, uz177], []⟩ w2
noncomputable def rest22b : Code := cutC 10 (Tryd.f6.body.getD .skip)
def Hb22b (l : Bool) (r : Bool) (s : Bool) (n : Nat) (nm : ByteArray) (w0 : World) (X : Nat → Obj → Prop) (Q : Exit → Act → World → Prop) : Prop :=
  ∀ (pb mp cr ea it ra rb : Nat) (PC : Array Value) (vt vb ut ub : Nat → Nat) (Y : Nat → Obj → Prop) ⦃uz0 uz1 uz2 uz3 uz4 uz5 uz6 uz7 uz8 uz9 uz10 uz14 uz18 uz19 uz20 uz21 uz22 uz23 uz24 uz25 uz26 uz27 uz28 uz29 uz30 uz31 uz32 uz33 uz34 uz35 uz36 uz37 uz38 uz39 uz40 uz41 uz42 uz43 uz44 uz45 uz46 uz47 uz48 uz49 uz50 uz51 uz52 uz53 uz54 uz55 uz56 uz57 uz58 uz59 uz60 uz61 uz62 uz63 uz64 uz65 uz66 uz67 uz68 uz69 uz70 uz71 uz72 uz73 uz74 uz75 uz76 uz77 uz78 uz79 uz80 uz81 uz82 uz83 uz84 uz85 uz86 uz87 uz88 uz89 uz90 uz91 uz92 uz93 uz94 uz95 uz96 uz97 uz98 uz99 uz100 uz101 uz102 uz103 uz104 uz105 uz106 uz107 uz108 uz109 uz110 uz111 uz112 uz113 uz114 uz115 uz116 uz117 uz118 uz119 uz120 uz121 uz122 uz123 uz124 uz125 uz126 uz127 uz128 uz129 uz130 uz131 uz132 uz133 uz134 uz135 uz136 uz137 uz138 uz139 uz140 uz141 uz142 uz143 uz144 uz145 uz146 uz147 uz148 uz149 uz150 uz151 uz152 uz153 uz154 uz155 uz156 uz157 uz158 uz159 uz160 uz161 uz162 uz163 uz164 uz165 uz166 uz167 uz168 uz169 uz170 uz171 uz172 uz173 uz174 uz175 uz176 uz177 : Value⦄ ⦃w2 : World⦄, (Dead PC mp cr r s) → (PC[338]? = some (.bool l)) → (n ≤ 4096) → (nm.size ≤ 1048576) → (∀ i : Nat, i < n → ColdV Y l (vt i) (vb i)) → (∀ i : Nat, i < n → InnV Y (vt i) (vb i) (2 * (i : Int)) (ut i) (ub i) (2 * (i : Int))) → Own w0 w2 [row (pb) 206 PC, row (ea) 65 #[.slice (some ⟨it, 0, none⟩) n n, .int .i32 0, .int .i32 0, .bool false, .bool false], row (it) 30 (itR vt vb n 0), row (rb) 30 #[.iface 62 (.pointer (some ⟨ea, 0, none⟩)), .int .i32 (-1)]] Y → Code.wp Tryd.prog rest22b Q ⟨#[uz0, uz1, uz2, uz3, uz4, uz5, uz6, uz7, uz8, uz9, uz10, .int .i64 (n : Int), .pointer (some ⟨pb, 0, none⟩), .slice (some ⟨it, 0, none⟩) n n, uz14, .pointer (some ⟨ra, 0, none⟩), .pointer (some ⟨ea, 0, none⟩), .pointer (some ⟨rb, 0, none⟩), uz18, uz19, uz20, uz21, uz22, uz23, uz24, uz25, uz26, uz27, uz28, uz29, uz30, uz31, uz32, uz33, uz34, uz35, uz36, uz37, uz38, uz39, uz40, uz41, uz42, uz43, uz44, uz45, uz46, uz47, uz48, uz49, uz50, uz51, uz52, uz53, uz54, uz55, uz56, uz57, uz58, uz59, uz60, uz61, uz62, uz63, uz64, uz65, uz66, uz67, uz68, uz69, uz70, uz71, uz72, uz73, uz74, uz75, uz76, uz77, uz78, uz79, uz80, uz81, uz82, uz83, uz84, uz85, uz86, uz87, uz88, uz89, uz90, uz91, uz92, uz93, uz94, uz95, uz96, uz97, uz98, uz99, uz100, uz101, uz102, uz103, uz104, uz105, uz106, uz107, uz108, uz109, uz110, uz111, uz112, uz113, uz114, uz115, uz116, uz117, uz118, uz119, uz120, uz121, uz122, uz123, uz124, uz125, uz126, uz127, uz128, uz129, uz130, uz131, uz132, uz133, uz134, uz135, uz136, uz137, uz138, uz139, uz140, uz141, uz142, uz143, uz144, uz145, uz146, uz147, uz148, uz149, uz150, uz151, uz152, uz153, uz154, uz155, uz156, uz157, uz158, uz159, uz160, uz161, uz162, uz163, uz164, uz165, uz166, uz167, uz168, uz169, uz170, uz171, uz172, uz173, uz174, uz175, uz176, uz177], []⟩ w2
theorem coldT {X : Nat → Obj → Prop} {l : Bool} {t b : Nat} (h : ColdV X l t b) : t = 40 ∨ t = 209 ∨ t = 227 ∨ t = 220 ∨ t = 229 := by
  rcases h with ⟨h, -⟩ | ⟨h, -⟩ | ⟨h, -⟩ | h | ⟨h, -⟩
  · exact Or.inl h
  · exact Or.inr (Or.inl h)
  · exact Or.inr (Or.inr (Or.inl h))
  · exact Or.inr (Or.inr (Or.inr (Or.inl h)))
  · exact Or.inr (Or.inr (Or.inr (Or.inr h)))
theorem innT {X : Nat → Obj → Prop} {t b t' b' : Nat} {l l' : Int} (h : InnV X t b l t' b' l') : t' = 40 ∨ t' = 209 ∨ t' = 227 ∨ t' = 220 ∨ t' = 229 := by
  rcases h with ⟨h, rfl, -, -⟩ | ⟨-, rfl, -⟩ | ⟨-, rfl, -⟩
  · rcases h with rfl | rfl | rfl
    · exact Or.inl rfl
    · exact Or.inr (Or.inl rfl)
    · exact Or.inr (Or.inr (Or.inr (Or.inl rfl)))
  · exact Or.inl rfl
  · exact Or.inl rfl
theorem cell_belowA {w0 w : World} {a : Addr} {v : Value} (hb : Below w0.heap.size w0 w) (h : w0.cell? a = some v) : w.cell? a = some v := by
  rw [← h]
  refine hb.cell (p := a) ?_
  simp only [World.cell?] at h
  cases hx : w0.heap[a.block]? with
  | none => rw [hx] at h; simp at h
  | some x => exact (Array.getElem?_eq_some_iff.1 hx).1

end Go.Proofs.YtcbdjbjbikiaeaaDoor.Use
