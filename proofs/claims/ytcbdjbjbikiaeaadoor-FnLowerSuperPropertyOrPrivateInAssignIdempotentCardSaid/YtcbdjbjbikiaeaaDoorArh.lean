/- An array of items, lowered. No condition. -/
import Derived.Test.YtcbdjbjbikiaeaaDoorArhd
import Derived.Test.YtcbdjbjbikiaeaaDoorHos
import Derived.Test.YtcbdjbjbikiaeaaDoorHot
import Derived.Test.YtcbdjbjbikiaeaaDoorUni
import Derived.Test.YtcbdjbjbikiaeaaDoorCls
import Derived.Test.YtcbdjbjbikiaeaaDoorCld
import Derived.Test.YtcbdjbjbikiaeaaDoorIta
import Derived.Test.YtcbdjbjbikiaeaaDoorNdt
import Derived.Test.YtcbdjbjbikiaeaaDoorItm
import Derived.Test.YtcbdjbjbikiaeaaDoorOwn
import Derived.Test.YtcbdjbjbikiaeaaDoorOwnK
import Derived.Test.YtcbdjbjbikiaeaaDoorLoop
import Derived.Test.YtcbdjbjbikiaeaaDoorApp
import Derived.Test.YtcbdjbjbikiaeaaDoorDeepCells
import Derived.Test.YtcbdjbjbikiaeaaDoorRows
import Derived.Test.YtcbdjbjbikiaeaaDoorDead
namespace Go.Proofs.YtcbdjbjbikiaeaaDoor.Use
open Go.ChangeShapes Go.WideShapes Go.ChangeAt Go.RowKit Go.Sort Own
set_option linter.unusedVariables false
def rAH0_0E (ea : Nat) (it : Nat) (n : Nat) (D : Dm) (j : Nat) (nw2 : Nat → Nat) (nd7 : Nat) (B8 : Nat) : Nat → Rega.Atoms → Value
  | 0, α => .pointer (some ⟨ea, 0, none⟩)
  | 1, α => .pointer (some ⟨ea, 0, none⟩)
  | 2, α => .pointer (some ⟨ea, 0, none⟩)
  | 3, α => .slice (some ⟨it, 0, none⟩) n n
  | 4, α => .int .i64 (j : Int)
  | 5, α => .agg #[.iface 40 (.pointer (some ⟨nd7, 0, none⟩)), .int .i32 (2 * (j : Int))]
  | 6, α => .pointer (some ⟨it, j * 2, none⟩)
  | 7, α => undef
  | _, _ => undef
def rAH0_0Anc : Nat → List Nat
  | 1 => [0]
  | 2 => [0, 1]
  | 3 => [0, 1, 2]
  | 6 => [0, 1, 2, 3, 4, 5]
  | 7 => [0, 1, 2, 3, 4, 5, 6]
  | _ => []
def rAH0_0Trn : Nat → List Nat
  | 7 => [2999]
  | _ => []
def rAH0_0Cnt : List (Nat × Nat) := []
def rAH0_0T2999 (ea : Nat) (it : Nat) (n : Nat) (D : Dm) (j : Nat) (nw2 : Nat → Nat) (nd7 : Nat) (B8 : Nat) (L9 : Nat → Bool) (α : Rega.Atoms) : Rw := if L9 7 = true then row (it) 30 (((itR (vT1 D j) (vB1 D nw2 j) n 0).setIfInBounds (j * 2) (.iface 40 (.pointer (some ⟨nd7, 0, none⟩)))).setIfInBounds (j * 2 + 1) (.int .i32 (2 * (j : Int)))) else row (it) 30 (itR (vT1 D j) (vB1 D nw2 j) n 0)
def rAH0_0R (ea : Nat) (it : Nat) (n : Nat) (D : Dm) (j : Nat) (nw2 : Nat → Nat) (nd7 : Nat) (B8 : Nat) (L9 : Nat → Bool) (α : Rega.Atoms) (ix9 : Nat) : Rw := if ix9 = 999 then row (B8) 30 #[.iface 40 (.pointer (some ⟨nd7, 0, none⟩)), .int .i32 (2 * (j : Int))] else if ix9 = 1999 then row (ea) 65 #[.slice (some ⟨it, 0, none⟩) n n, .int .i32 0, .int .i32 0, .bool false, .bool false] else if ix9 = 2999 then rAH0_0T2999 ea it n D j nw2 nd7 B8 L9 α else (0, .map #[] 0)
theorem rAH0_0_he (ea : Nat) (it : Nat) (n : Nat) (D : Dm) (j : Nat) (nw2 : Nat → Nat) (nd7 : Nat) (B8 : Nat) : ∀ kk α α', (∀ j, (j % 1000 = kk ∨ j % 1000 ∈ rAH0_0Anc kk) → α j = α' j) → rAH0_0E ea it n D j nw2 nd7 B8 kk α = rAH0_0E ea it n D j nw2 nd7 B8 kk α' := by
  intro kk α α' h
  match kk with
  | 0 => rfl
  | 1 => rfl
  | 2 => rfl
  | 3 => rfl
  | 4 => rfl
  | 5 => rfl
  | 6 => rfl
  | 7 => rfl
  | n + 8 => rfl
theorem rAH0_0_st (ea : Nat) (it : Nat) (n : Nat) (D : Dm) (j : Nat) (nw2 : Nat → Nat) (nd7 : Nat) (B8 : Nat) : Stable rAH0_0Cnt 3 rAH0_0Anc rAH0_0Trn (rAH0_0R ea it n D j nw2 nd7 B8) := by
  intro k9 L9 α α' ix9 hk hcl hα hact ht
  have hp := act_places hact
  replace hp : ix9 ∈ [999, 1999, 2999] := hp
  simp only [List.mem_cons, List.not_mem_nil, or_false] at hp
  rcases hp with rfl | rfl | rfl
  · rfl
  · rfl
  · show rAH0_0T2999 ea it n D j nw2 nd7 B8 (Rega.ran L9 k9) α' = rAH0_0T2999 ea it n D j nw2 nd7 B8 L9 α
    unfold rAH0_0T2999
    have n7 : 7 ≠ k9 := fun e => ht (by rw [← e]; decide)
    rw [ran_ne n7]
def rAH1_0E (ea : Nat) (it : Nat) (n : Nat) (D : Dm) (j : Nat) (nw2 : Nat → Nat) (nd15 : Nat) (B16 : Nat) : Nat → Rega.Atoms → Value
  | 0, α => .pointer (some ⟨ea, 0, none⟩)
  | 1, α => .pointer (some ⟨ea, 0, none⟩)
  | 2, α => .pointer (some ⟨ea, 0, none⟩)
  | 3, α => .slice (some ⟨it, 0, none⟩) n n
  | 4, α => .int .i64 (j : Int)
  | 5, α => .agg #[.iface 40 (.pointer (some ⟨nd15, 0, none⟩)), .int .i32 (2 * (j : Int))]
  | 6, α => .pointer (some ⟨it, j * 2, none⟩)
  | 7, α => undef
  | _, _ => undef
def rAH1_0Anc : Nat → List Nat
  | 1 => [0]
  | 2 => [0, 1]
  | 3 => [0, 1, 2]
  | 6 => [0, 1, 2, 3, 4, 5]
  | 7 => [0, 1, 2, 3, 4, 5, 6]
  | _ => []
def rAH1_0Trn : Nat → List Nat
  | 7 => [2999]
  | _ => []
def rAH1_0Cnt : List (Nat × Nat) := []
def rAH1_0T2999 (ea : Nat) (it : Nat) (n : Nat) (D : Dm) (j : Nat) (nw2 : Nat → Nat) (nd15 : Nat) (B16 : Nat) (L9 : Nat → Bool) (α : Rega.Atoms) : Rw := if L9 7 = true then row (it) 30 (((itR (vT1 D j) (vB1 D nw2 j) n 0).setIfInBounds (j * 2) (.iface 40 (.pointer (some ⟨nd15, 0, none⟩)))).setIfInBounds (j * 2 + 1) (.int .i32 (2 * (j : Int)))) else row (it) 30 (itR (vT1 D j) (vB1 D nw2 j) n 0)
def rAH1_0R (ea : Nat) (it : Nat) (n : Nat) (D : Dm) (j : Nat) (nw2 : Nat → Nat) (nd15 : Nat) (B16 : Nat) (L9 : Nat → Bool) (α : Rega.Atoms) (ix9 : Nat) : Rw := if ix9 = 999 then row (B16) 30 #[.iface 40 (.pointer (some ⟨nd15, 0, none⟩)), .int .i32 (2 * (j : Int))] else if ix9 = 1999 then row (ea) 65 #[.slice (some ⟨it, 0, none⟩) n n, .int .i32 0, .int .i32 0, .bool false, .bool false] else if ix9 = 2999 then rAH1_0T2999 ea it n D j nw2 nd15 B16 L9 α else (0, .map #[] 0)
theorem rAH1_0_he (ea : Nat) (it : Nat) (n : Nat) (D : Dm) (j : Nat) (nw2 : Nat → Nat) (nd15 : Nat) (B16 : Nat) : ∀ kk α α', (∀ j, (j % 1000 = kk ∨ j % 1000 ∈ rAH1_0Anc kk) → α j = α' j) → rAH1_0E ea it n D j nw2 nd15 B16 kk α = rAH1_0E ea it n D j nw2 nd15 B16 kk α' := by
  intro kk α α' h
  match kk with
  | 0 => rfl
  | 1 => rfl
  | 2 => rfl
  | 3 => rfl
  | 4 => rfl
  | 5 => rfl
  | 6 => rfl
  | 7 => rfl
  | n + 8 => rfl
theorem rAH1_0_st (ea : Nat) (it : Nat) (n : Nat) (D : Dm) (j : Nat) (nw2 : Nat → Nat) (nd15 : Nat) (B16 : Nat) : Stable rAH1_0Cnt 3 rAH1_0Anc rAH1_0Trn (rAH1_0R ea it n D j nw2 nd15 B16) := by
  intro k9 L9 α α' ix9 hk hcl hα hact ht
  have hp := act_places hact
  replace hp : ix9 ∈ [999, 1999, 2999] := hp
  simp only [List.mem_cons, List.not_mem_nil, or_false] at hp
  rcases hp with rfl | rfl | rfl
  · rfl
  · rfl
  · show rAH1_0T2999 ea it n D j nw2 nd15 B16 (Rega.ran L9 k9) α' = rAH1_0T2999 ea it n D j nw2 nd15 B16 L9 α
    unfold rAH1_0T2999
    have n7 : 7 ≠ k9 := fun e => ht (by rw [← e]; decide)
    rw [ran_ne n7]
def rAH3_0E (ea : Nat) (it : Nat) (n : Nat) (D : Dm) (j : Nat) (nw2 : Nat → Nat) (B29 : Nat) : Nat → Rega.Atoms → Value
  | 0, α => .pointer (some ⟨ea, 0, none⟩)
  | 1, α => .pointer (some ⟨ea, 0, none⟩)
  | 2, α => .pointer (some ⟨ea, 0, none⟩)
  | 3, α => .slice (some ⟨it, 0, none⟩) n n
  | 4, α => .int .i64 (j : Int)
  | 5, α => .agg #[.iface 227 (.pointer (some ⟨D.nd j, 0, none⟩)), .int .i32 (2 * (j : Int))]
  | 6, α => .pointer (some ⟨it, j * 2, none⟩)
  | 7, α => undef
  | _, _ => undef
def rAH3_0Anc : Nat → List Nat
  | 1 => [0]
  | 2 => [0, 1]
  | 3 => [0, 1, 2]
  | 6 => [0, 1, 2, 3, 4, 5]
  | 7 => [0, 1, 2, 3, 4, 5, 6]
  | _ => []
def rAH3_0Trn : Nat → List Nat
  | 7 => [2999]
  | _ => []
def rAH3_0Cnt : List (Nat × Nat) := []
def rAH3_0T2999 (ea : Nat) (it : Nat) (n : Nat) (D : Dm) (j : Nat) (nw2 : Nat → Nat) (B29 : Nat) (L9 : Nat → Bool) (α : Rega.Atoms) : Rw := if L9 7 = true then row (it) 30 (((itR (vT1 D j) (vB1 D nw2 j) n 0).setIfInBounds (j * 2) (.iface 227 (.pointer (some ⟨D.nd j, 0, none⟩)))).setIfInBounds (j * 2 + 1) (.int .i32 (2 * (j : Int)))) else row (it) 30 (itR (vT1 D j) (vB1 D nw2 j) n 0)
def rAH3_0R (ea : Nat) (it : Nat) (n : Nat) (D : Dm) (j : Nat) (nw2 : Nat → Nat) (B29 : Nat) (L9 : Nat → Bool) (α : Rega.Atoms) (ix9 : Nat) : Rw := if ix9 = 999 then row (B29) 30 #[.iface 227 (.pointer (some ⟨D.nd j, 0, none⟩)), .int .i32 (2 * (j : Int))] else if ix9 = 1999 then row (ea) 65 #[.slice (some ⟨it, 0, none⟩) n n, .int .i32 0, .int .i32 0, .bool false, .bool false] else if ix9 = 2999 then rAH3_0T2999 ea it n D j nw2 B29 L9 α else (0, .map #[] 0)
theorem rAH3_0_he (ea : Nat) (it : Nat) (n : Nat) (D : Dm) (j : Nat) (nw2 : Nat → Nat) (B29 : Nat) : ∀ kk α α', (∀ j, (j % 1000 = kk ∨ j % 1000 ∈ rAH3_0Anc kk) → α j = α' j) → rAH3_0E ea it n D j nw2 B29 kk α = rAH3_0E ea it n D j nw2 B29 kk α' := by
  intro kk α α' h
  match kk with
  | 0 => rfl
  | 1 => rfl
  | 2 => rfl
  | 3 => rfl
  | 4 => rfl
  | 5 => rfl
  | 6 => rfl
  | 7 => rfl
  | n + 8 => rfl
theorem rAH3_0_st (ea : Nat) (it : Nat) (n : Nat) (D : Dm) (j : Nat) (nw2 : Nat → Nat) (B29 : Nat) : Stable rAH3_0Cnt 3 rAH3_0Anc rAH3_0Trn (rAH3_0R ea it n D j nw2 B29) := by
  intro k9 L9 α α' ix9 hk hcl hα hact ht
  have hp := act_places hact
  replace hp : ix9 ∈ [999, 1999, 2999] := hp
  simp only [List.mem_cons, List.not_mem_nil, or_false] at hp
  rcases hp with rfl | rfl | rfl
  · rfl
  · rfl
  · show rAH3_0T2999 ea it n D j nw2 B29 (Rega.ran L9 k9) α' = rAH3_0T2999 ea it n D j nw2 B29 L9 α
    unfold rAH3_0T2999
    have n7 : 7 ≠ k9 := fun e => ht (by rw [← e]; decide)
    rw [ran_ne n7]
def rAH5_0E (ea : Nat) (it : Nat) (n : Nat) (D : Dm) (j : Nat) (nw2 : Nat → Nat) (B42 : Nat) : Nat → Rega.Atoms → Value
  | 0, α => .pointer (some ⟨ea, 0, none⟩)
  | 1, α => .pointer (some ⟨ea, 0, none⟩)
  | 2, α => .pointer (some ⟨ea, 0, none⟩)
  | 3, α => .slice (some ⟨it, 0, none⟩) n n
  | 4, α => .int .i64 (j : Int)
  | 5, α => .agg #[.iface 229 (.pointer (some ⟨D.nd j, 0, none⟩)), .int .i32 (2 * (j : Int))]
  | 6, α => .pointer (some ⟨it, j * 2, none⟩)
  | 7, α => undef
  | _, _ => undef
def rAH5_0Anc : Nat → List Nat
  | 1 => [0]
  | 2 => [0, 1]
  | 3 => [0, 1, 2]
  | 6 => [0, 1, 2, 3, 4, 5]
  | 7 => [0, 1, 2, 3, 4, 5, 6]
  | _ => []
def rAH5_0Trn : Nat → List Nat
  | 7 => [2999]
  | _ => []
def rAH5_0Cnt : List (Nat × Nat) := []
def rAH5_0T2999 (ea : Nat) (it : Nat) (n : Nat) (D : Dm) (j : Nat) (nw2 : Nat → Nat) (B42 : Nat) (L9 : Nat → Bool) (α : Rega.Atoms) : Rw := if L9 7 = true then row (it) 30 (((itR (vT1 D j) (vB1 D nw2 j) n 0).setIfInBounds (j * 2) (.iface 229 (.pointer (some ⟨D.nd j, 0, none⟩)))).setIfInBounds (j * 2 + 1) (.int .i32 (2 * (j : Int)))) else row (it) 30 (itR (vT1 D j) (vB1 D nw2 j) n 0)
def rAH5_0R (ea : Nat) (it : Nat) (n : Nat) (D : Dm) (j : Nat) (nw2 : Nat → Nat) (B42 : Nat) (L9 : Nat → Bool) (α : Rega.Atoms) (ix9 : Nat) : Rw := if ix9 = 999 then row (B42) 30 #[.iface 229 (.pointer (some ⟨D.nd j, 0, none⟩)), .int .i32 (2 * (j : Int))] else if ix9 = 1999 then row (ea) 65 #[.slice (some ⟨it, 0, none⟩) n n, .int .i32 0, .int .i32 0, .bool false, .bool false] else if ix9 = 2999 then rAH5_0T2999 ea it n D j nw2 B42 L9 α else (0, .map #[] 0)
theorem rAH5_0_he (ea : Nat) (it : Nat) (n : Nat) (D : Dm) (j : Nat) (nw2 : Nat → Nat) (B42 : Nat) : ∀ kk α α', (∀ j, (j % 1000 = kk ∨ j % 1000 ∈ rAH5_0Anc kk) → α j = α' j) → rAH5_0E ea it n D j nw2 B42 kk α = rAH5_0E ea it n D j nw2 B42 kk α' := by
  intro kk α α' h
  match kk with
  | 0 => rfl
  | 1 => rfl
  | 2 => rfl
  | 3 => rfl
  | 4 => rfl
  | 5 => rfl
  | 6 => rfl
  | 7 => rfl
  | n + 8 => rfl
theorem rAH5_0_st (ea : Nat) (it : Nat) (n : Nat) (D : Dm) (j : Nat) (nw2 : Nat → Nat) (B42 : Nat) : Stable rAH5_0Cnt 3 rAH5_0Anc rAH5_0Trn (rAH5_0R ea it n D j nw2 B42) := by
  intro k9 L9 α α' ix9 hk hcl hα hact ht
  have hp := act_places hact
  replace hp : ix9 ∈ [999, 1999, 2999] := hp
  simp only [List.mem_cons, List.not_mem_nil, or_false] at hp
  rcases hp with rfl | rfl | rfl
  · rfl
  · rfl
  · show rAH5_0T2999 ea it n D j nw2 B42 (Rega.ran L9 k9) α' = rAH5_0T2999 ea it n D j nw2 B42 L9 α
    unfold rAH5_0T2999
    have n7 : 7 ≠ k9 := fun e => ht (by rw [← e]; decide)
    rw [ran_ne n7]
def arrHotPost (pb : Nat) (PC : Array Value) (mp cr : Nat) (r s : Bool) (loc : Int) (ea it n : Nat) (D : Dm) (nw : Nat → Nat) (nm : ByteArray) (w0 : World) (X : Nat → Obj → Prop) (e : Ending) (w' : World) : Prop :=
  ∃ (b9 : Bool) (nw2 : Nat → Nat) (Y : Nat → Obj → Prop), e = .returned (.tuple #[.agg #[.iface 62 (.pointer (some ⟨ea, 0, none⟩)), .int .i32 loc], .bool b9]) ∧ (∀ b o, X b o → Y b o) ∧ (∀ i : Nat, i < n → D.kd i ≠ 2 → D.kd i ≠ 4 → DotC Y true (nw2 i)) ∧ Own w0 w' [row (pb) 206 PC, ((mp, .map #[⟨.string ⟨#[95, 95, 115, 117, 112, 101, 114, 87, 114, 97, 112, 112, 101, 114]⟩, .agg #[.int .i32 0, .int .u32 0, .int .u32 2], 0⟩, ⟨.string ⟨#[95, 95, 115, 117, 112, 101, 114, 71, 101, 116]⟩, .agg #[.int .i32 0, .int .u32 0, .int .u32 3], 1⟩, ⟨.string ⟨#[95, 95, 112, 114, 105, 118, 97, 116, 101, 87, 114, 97, 112, 112, 101, 114]⟩, .agg #[.int .i32 0, .int .u32 0, .int .u32 4], 2⟩] 3) : Rw), row (cr) 68 #[.int .u32 0, .int .u32 1], row (ea) 65 #[.slice (some ⟨it, 0, none⟩) n n, .int .i32 0, .int .i32 0, .bool false, .bool false], row (it) 30 (itR (vT1 D n) (vB1 D nw2 n) n 0)] (NodT Y D nw2 n n)
set_option maxRecDepth 100000 in
set_option maxHeartbeats 4000000 in
theorem arrHot (pb : Nat) (PC : Array Value) (mp cr : Nat) (r s : Bool) (loc : Int) (ea it n : Nat) (D : Dm) (nw : Nat → Nat) (nm : ByteArray) (w0 w : World) (X : Nat → Obj → Prop) (hO : Own w0 w [row (pb) 206 PC, ((mp, .map #[⟨.string ⟨#[95, 95, 115, 117, 112, 101, 114, 87, 114, 97, 112, 112, 101, 114]⟩, .agg #[.int .i32 0, .int .u32 0, .int .u32 2], 0⟩, ⟨.string ⟨#[95, 95, 115, 117, 112, 101, 114, 71, 101, 116]⟩, .agg #[.int .i32 0, .int .u32 0, .int .u32 3], 1⟩, ⟨.string ⟨#[95, 95, 112, 114, 105, 118, 97, 116, 101, 87, 114, 97, 112, 112, 101, 114]⟩, .agg #[.int .i32 0, .int .u32 0, .int .u32 4], 2⟩] 3) : Rw), row (cr) 68 #[.int .u32 0, .int .u32 1], row (ea) 65 #[.slice (some ⟨it, 0, none⟩) n n, .int .i32 0, .int .i32 0, .bool false, .bool false], row (it) 30 (itR (vT1 D 0) (vB1 D nw 0) n 0)] (NodT X D nw 0 n)) (hD : Dead PC mp cr r s) (hl : PC[338]? = some (.bool true)) (hlen : nm.size ≤ 1048576) (hn4 : n ≤ 4096) (hk6 : ∀ i : Nat, i < n → D.kd i < 6) (hraw : ∀ i : Nat, i < n → RawI X D nm i) (hsp : SepT X D n) (hij : InjT D n) :
    Calls Tryd.prog 35 #[.pointer (some ⟨pb, 0, none⟩), .agg #[.iface 62 (.pointer (some ⟨ea, 0, none⟩)), .int .i32 loc]] w (arrHotPost pb PC mp cr r s loc ea it n D nw nm w0 X) := by
  go_enter Tryd.func35, Tryd.ntmps35
  have HK := Lib.hid hk6
  have HR := Lib.hid hraw
  have HIJ := Lib.hid hij
  clear hk6 hraw hij
  have hn9 : (n : Int) ≤ 4096 := by omega
  have hn8 : (0 : Int) ≤ (n : Int) := by omega
  obtain ⟨c9_2_0, c9_2_1, lt9_2, y9_2, -⟩ := hO.k2 2 rfl
  obtain ⟨c9_3_0, c9_3_1, c9_3_2, c9_3_3, c9_3_4, lt9_3, y9_3, -⟩ := hO.k5 3 rfl
  have HO := Lib.hid hO
  clear hO
  go_wp2_with (first | (with_reducible refine Own.stay (fn := Tryd.f35) ?_) | (first | (go_at_call 34; go_in)))
  try with_reducible refine Own.Stay.mk ?_
  have hO := HO.out
  clear HO c9_2_0 c9_2_1 lt9_2 y9_2 c9_3_0 c9_3_1 c9_3_2 c9_3_3 c9_3_4 lt9_3 y9_3
  generalize hW : World.alloc _ _ = W2
  have hN : Own w0 W2 [row (w.heap.size + 1) 30 #[.nilIface, .int .i32 0], row (w.heap.size) 30 #[.iface 62 (.pointer (some ⟨ea, 0, none⟩)), .int .i32 loc], row (pb) 206 PC, ((mp, .map #[⟨.string ⟨#[95, 95, 115, 117, 112, 101, 114, 87, 114, 97, 112, 112, 101, 114]⟩, .agg #[.int .i32 0, .int .u32 0, .int .u32 2], 0⟩, ⟨.string ⟨#[95, 95, 115, 117, 112, 101, 114, 71, 101, 116]⟩, .agg #[.int .i32 0, .int .u32 0, .int .u32 3], 1⟩, ⟨.string ⟨#[95, 95, 112, 114, 105, 118, 97, 116, 101, 87, 114, 97, 112, 112, 101, 114]⟩, .agg #[.int .i32 0, .int .u32 0, .int .u32 4], 2⟩] 3) : Rw), row (cr) 68 #[.int .u32 0, .int .u32 1], row (ea) 65 #[.slice (some ⟨it, 0, none⟩) n n, .int .i32 0, .int .i32 0, .bool false, .bool false], row (it) 30 (itR (vT1 D 0) (vB1 D nw 0) n 0)] (NodT X D nw 0 n) := by
    rw [← hW]
    exact ((hO).alloc' _ (w.heap.size) (by simp)).alloc' _ (w.heap.size + 1) (by simp)
  clear hW hO
  generalize w.heap.size + 1 = B1_1 at hN ⊢
  generalize w.heap.size = B1 at hN ⊢
  have hO := hN
  clear hN
  go_loopg [6, 194] n (fun gf s6 s194 wx => ∃ (j : Nat) (b9 : Bool) (nw2 : Nat → Nat) (Y : Nat → Obj → Prop), j + gf = n ∧ s6 = .bool b9 ∧ s194 = .int .i64 (j : Int) ∧ (∀ b o, X b o → Y b o) ∧ (∀ i : Nat, i < j → D.kd i ≠ 2 → D.kd i ≠ 4 → DotC Y true (nw2 i)) ∧ SepT Y D n ∧ Own w0 wx [row (B1_1) 30 #[.nilIface, .int .i32 0], row (B1) 30 #[.iface 62 (.pointer (some ⟨ea, 0, none⟩)), .int .i32 loc], row (pb) 206 PC, ((mp, .map #[⟨.string ⟨#[95, 95, 115, 117, 112, 101, 114, 87, 114, 97, 112, 112, 101, 114]⟩, .agg #[.int .i32 0, .int .u32 0, .int .u32 2], 0⟩, ⟨.string ⟨#[95, 95, 115, 117, 112, 101, 114, 71, 101, 116]⟩, .agg #[.int .i32 0, .int .u32 0, .int .u32 3], 1⟩, ⟨.string ⟨#[95, 95, 112, 114, 105, 118, 97, 116, 101, 87, 114, 97, 112, 112, 101, 114]⟩, .agg #[.int .i32 0, .int .u32 0, .int .u32 4], 2⟩] 3) : Rw), row (cr) 68 #[.int .u32 0, .int .u32 1], row (ea) 65 #[.slice (some ⟨it, 0, none⟩) n n, .int .i32 0, .int .i32 0, .bool false, .bool false], row (it) 30 (itR (vT1 D j) (vB1 D nw2 j) n 0)] (NodT Y D nw2 j n))
  case atStart => exact ⟨0, false, nw, X, by omega, rfl, rfl, fun _ _ h => h, fun i hi => absurd hi (Nat.not_lt_zero i), hsp, hO.sub [0, 1, 2, 3, 4, 5, 6] (by decide)⟩
  obtain ⟨j, b9, nw2, Y, hjn, rfl, rfl, hXY, hdt, hsy, hO⟩ := hrel
  have HXY := Lib.hid hXY
  have HDT := Lib.hid hdt
  have HSY := Lib.hid hsy
  clear hXY hdt hsy hsp
  by_cases hlt : j < n
  · skip
    obtain ⟨gq, rfl⟩ : ∃ gq, gk = gq + 1 := ⟨gk - 1, by omega⟩
    have hlt9 : (j : Int) < (n : Int) := by omega
    have hj8 : (0 : Int) ≤ (j : Int) := by omega
    have hj7 : (j : Int) ≤ 4096 := by omega
    obtain ⟨hvt, hvb⟩ := v1_now (D := D) (nw := nw2) (j := j)
    rcases HR.out j hlt with ⟨hkj, kx, hx⟩ | ⟨hkj, kx, ib, hx⟩ | ⟨hkj, kx, hx⟩ | ⟨hkj, kx, hx⟩ | hkj | ⟨hkj, hxo, kx, hx⟩
    · skip
      have hy := HXY.out _ _ hx
      clear hx
      have hv0 : vT1 D j j = 40 := by rw [hvt, hkj]; rfl
      have hc0 : (itR (vT1 D j) (vB1 D nw2 j) n 0)[j * 2]? = some (.iface 40 (.pointer (some ⟨(D.nd j), 0, none⟩))) := by
        have h9 := itR_at0 (t := vT1 D j) (b := vB1 D nw2 j) (g := 0) hlt
        rwa [hv0, hvb] at h9
      have hc1 : (itR (vT1 D j) (vB1 D nw2 j) n 0)[j * 2 + 1]? = some (.int .i32 (2 * (j : Int))) := itR_at1 hlt
      have HV := Lib.hid (And.intro hvt (And.intro hvb hv0))
      clear hvt hvb hv0
      have HY := Lib.hid hy
      clear hy
      have HKJ := Lib.hid hkj
      clear hkj
      obtain ⟨ix9, hix9, hax9, hjx9⟩ := hO.ix
      have ix9_0 : ix9 B1_1 = 0 := hjx9 0 _ _ rfl
      have ix9_1 : ix9 B1 = 1 := hjx9 1 _ _ rfl
      have ix9_2 : ix9 pb = 2 := hjx9 2 _ _ rfl
      have ix9_3 : ix9 mp = 3 := hjx9 3 _ _ rfl
      have ix9_4 : ix9 cr = 4 := hjx9 4 _ _ rfl
      have ix9_5 : ix9 ea = 5 := hjx9 5 _ _ rfl
      have ix9_6 : ix9 it = 6 := hjx9 6 _ _ rfl
      clear hjx9
      obtain ⟨c9_0_0, c9_0_1, lt9_0, y9_0, pl9_0⟩ := hO.k2 0 rfl
      obtain ⟨c9_1_0, c9_1_1, lt9_1, y9_1, pl9_1⟩ := hO.k2 1 rfl
      have c9_2_32 : wr.cell? ⟨pb, 32, none⟩ = some (.bool false) := hO.cell 2 rfl (32) (hD.ts)
      have c9_2_95 : wr.cell? ⟨pb, 95, none⟩ = some (.bool r) := hO.cell 2 rfl (95) (hD.rep)
      have c9_2_96 : wr.cell? ⟨pb, 96, none⟩ = some (.bool s) := hO.cell 2 rfl (96) (hD.stat)
      have c9_2_97 : wr.cell? ⟨pb, 97, none⟩ = some (.pointer (some ⟨cr, 0, none⟩)) := hO.cell 2 rfl (97) (hD.cls)
      have c9_2_117 : wr.cell? ⟨pb, 117, none⟩ = some (.map (some mp)) := hO.cell 2 rfl (117) (hD.imp)
      have c9_2_338 : wr.cell? ⟨pb, 338, none⟩ = some (.bool true) := hO.cell 2 rfl (338) (hl)
      have c9_2_350 : wr.cell? ⟨pb, 350, none⟩ = some (.bool true) := hO.cell 2 rfl (350) (hD.dead)
      have lt9_2 : pb < wr.heap.size := hO.lt 2 rfl
      have y9_2 : ∀ o, wr.frozen? ⟨pb, o, none⟩ = false := hO.free 2 rfl
      obtain ⟨c9_4_0, c9_4_1, lt9_4, y9_4, -⟩ := hO.k2 4 rfl
      obtain ⟨c9_5_0, c9_5_1, c9_5_2, c9_5_3, c9_5_4, lt9_5, y9_5, -⟩ := hO.k5 5 rfl
      have pl9_6 : Base.plainAt wr (it) = true := hO.plain 6 rfl
      have c9_6_j_2 : wr.cell? ⟨it, j * 2, none⟩ = some (.iface 40 (.pointer (some ⟨(D.nd j), 0, none⟩))) := hO.cell 6 rfl (j * 2) (hc0)
      have c9_6_j_2_1 : wr.cell? ⟨it, j * 2 + 1, none⟩ = some (.int .i32 (2 * (j : Int))) := hO.cell 6 rfl (j * 2 + 1) (hc1)
      have lt9_6 : it < wr.heap.size := hO.lt 6 rfl
      have y9_6 : ∀ o, wr.frozen? ⟨it, o, none⟩ = false := hO.free 6 rfl
      have HO := Lib.hid hO
      clear hO
      go_wp2_with (first | (with_reducible refine Own.stay (fn := Tryd.f35) ?_) | (first | (go_at_call 34; go_in)))
      try with_reducible refine Own.Stay.mk ?_
      have hO := HO.out
      clear HO hix9 hax9 ix9_0 ix9_1 ix9_2 ix9_3 ix9_4 ix9_5 ix9_6 ix9 c9_0_0 c9_0_1 lt9_0 y9_0 pl9_0 c9_1_0 c9_1_1 lt9_1 y9_1 pl9_1 c9_2_32 c9_2_95 c9_2_96 c9_2_97 c9_2_117 c9_2_338 c9_2_350 lt9_2 y9_2 c9_4_0 c9_4_1 lt9_4 y9_4 c9_5_0 c9_5_1 c9_5_2 c9_5_3 c9_5_4 lt9_5 y9_5 pl9_6 c9_6_j_2 c9_6_j_2_1 lt9_6 y9_6
      generalize hW : World.alloc _ _ = W4
      have hN : Own w0 W4 [row (wr.heap.size) 30 #[.iface 40 (.pointer (some ⟨D.nd j, 0, none⟩)), .int .i32 (2 * (j : Int))], row (B1_1) 30 #[.nilIface, .int .i32 0], row (B1) 30 #[.iface 62 (.pointer (some ⟨ea, 0, none⟩)), .int .i32 loc], row (pb) 206 PC, ((mp, .map #[⟨.string ⟨#[95, 95, 115, 117, 112, 101, 114, 87, 114, 97, 112, 112, 101, 114]⟩, .agg #[.int .i32 0, .int .u32 0, .int .u32 2], 0⟩, ⟨.string ⟨#[95, 95, 115, 117, 112, 101, 114, 71, 101, 116]⟩, .agg #[.int .i32 0, .int .u32 0, .int .u32 3], 1⟩, ⟨.string ⟨#[95, 95, 112, 114, 105, 118, 97, 116, 101, 87, 114, 97, 112, 112, 101, 114]⟩, .agg #[.int .i32 0, .int .u32 0, .int .u32 4], 2⟩] 3) : Rw), row (cr) 68 #[.int .u32 0, .int .u32 1], row (ea) 65 #[.slice (some ⟨it, 0, none⟩) n n, .int .i32 0, .int .i32 0, .bool false, .bool false], row (it) 30 (itR (vT1 D j) (vB1 D nw2 j) n 0)] (NodT Y D nw2 j n) := by
        rw [← hW]
        exact (hO).alloc' _ (wr.heap.size) (by simp)
      clear hW hO
      generalize wr.heap.size = B3 at hN ⊢
      have hO := hN
      clear hN
      have hL := hO.apart
      have hX := hO.apartX
      have HL := Lib.hid hL
      have HX := Lib.hid hX
      clear hL hX
      have hP9 := hO.pick [3, 4, 5] (by decide)
      have T9 := hotd pb PC mp cr r s (2 * (j : Int)) (D.nd j) kx (2 * (j : Int)) (2 * (j : Int) + 1) nm _ _ _ hP9 hD hl hlen (Or.inl (Or.inl HY.out))
      refine Calls.mono T9 ?_
      clear hP9 T9
      rintro e uw5 ⟨nd6, nd7, rfl, hQ⟩
      have hN : Own w0 uw5 [row (pb) 206 PC, ((mp, .map #[⟨.string ⟨#[95, 95, 115, 117, 112, 101, 114, 87, 114, 97, 112, 112, 101, 114]⟩, .agg #[.int .i32 0, .int .u32 0, .int .u32 2], 0⟩, ⟨.string ⟨#[95, 95, 115, 117, 112, 101, 114, 71, 101, 116]⟩, .agg #[.int .i32 0, .int .u32 0, .int .u32 3], 1⟩, ⟨.string ⟨#[95, 95, 112, 114, 105, 118, 97, 116, 101, 87, 114, 97, 112, 112, 101, 114]⟩, .agg #[.int .i32 0, .int .u32 0, .int .u32 4], 2⟩] 3) : Rw), row (cr) 68 #[.int .u32 0, .int .u32 1], row (nd7) 44 #[.iface 52 (.pointer (some ⟨nd6, 0, none⟩)), .int .i32 (2 * (j : Int)), .string ⟨#[95]⟩, .int .i32 (2 * (j : Int)), .int .u8 0, .bool false, .bool false, .bool false], row (B3) 30 #[.iface 40 (.pointer (some ⟨D.nd j, 0, none⟩)), .int .i32 (2 * (j : Int))], row (B1_1) 30 #[.nilIface, .int .i32 0], row (B1) 30 #[.iface 62 (.pointer (some ⟨ea, 0, none⟩)), .int .i32 loc], row (ea) 65 #[.slice (some ⟨it, 0, none⟩) n n, .int .i32 0, .int .i32 0, .bool false, .bool false], row (it) 30 (itR (vT1 D j) (vB1 D nw2 j) n 0)] (NodT Y D nw2 j n) := hQ.back HL.out HX.out [0, 1, 2, 6, 7] (by decide) (by decide)
      clear hQ HL HX hO
      have hO := hN
      clear hN
      obtain ⟨c9_2_0, c9_2_1, lt9_2, y9_2, -⟩ := hO.k2 2 rfl
      obtain ⟨c9_3_0, c9_3_1, c9_3_2, c9_3_3, c9_3_4, c9_3_5, c9_3_6, c9_3_7, lt9_3, y9_3, -⟩ := hO.k8 3 rfl
      obtain ⟨c9_4_0, c9_4_1, lt9_4, y9_4, -⟩ := hO.k2 4 rfl
      obtain ⟨c9_5_0, c9_5_1, lt9_5, y9_5, -⟩ := hO.k2 5 rfl
      obtain ⟨c9_6_0, c9_6_1, lt9_6, y9_6, -⟩ := hO.k2 6 rfl
      obtain ⟨c9_7_0, c9_7_1, c9_7_2, c9_7_3, c9_7_4, lt9_7, y9_7, -⟩ := hO.k5 7 rfl
      have HO := Lib.hid hO
      clear hO
      go_wp2_with (first | (with_reducible refine Own.stay (fn := Tryd.f35) ?_) | (first | (go_at_call 34; go_in)))
      try with_reducible refine Own.Stay.mk ?_
      have hO := HO.out
      clear HO c9_2_0 c9_2_1 lt9_2 y9_2 c9_3_0 c9_3_1 c9_3_2 c9_3_3 c9_3_4 c9_3_5 c9_3_6 c9_3_7 lt9_3 y9_3 c9_4_0 c9_4_1 lt9_4 y9_4 c9_5_0 c9_5_1 lt9_5 y9_5 c9_6_0 c9_6_1 lt9_6 y9_6 c9_7_0 c9_7_1 c9_7_2 c9_7_3 c9_7_4 lt9_7 y9_7
      generalize hW : World.alloc _ _ = W9
      have hN : Own w0 W9 [row (uw5.heap.size) 30 #[.iface 40 (.pointer (some ⟨nd7, 0, none⟩)), .int .i32 (2 * (j : Int))], row (pb) 206 PC, ((mp, .map #[⟨.string ⟨#[95, 95, 115, 117, 112, 101, 114, 87, 114, 97, 112, 112, 101, 114]⟩, .agg #[.int .i32 0, .int .u32 0, .int .u32 2], 0⟩, ⟨.string ⟨#[95, 95, 115, 117, 112, 101, 114, 71, 101, 116]⟩, .agg #[.int .i32 0, .int .u32 0, .int .u32 3], 1⟩, ⟨.string ⟨#[95, 95, 112, 114, 105, 118, 97, 116, 101, 87, 114, 97, 112, 112, 101, 114]⟩, .agg #[.int .i32 0, .int .u32 0, .int .u32 4], 2⟩] 3) : Rw), row (cr) 68 #[.int .u32 0, .int .u32 1], row (nd7) 44 #[.iface 52 (.pointer (some ⟨nd6, 0, none⟩)), .int .i32 (2 * (j : Int)), .string ⟨#[95]⟩, .int .i32 (2 * (j : Int)), .int .u8 0, .bool false, .bool false, .bool false], row (B3) 30 #[.iface 40 (.pointer (some ⟨D.nd j, 0, none⟩)), .int .i32 (2 * (j : Int))], row (B1_1) 30 #[.nilIface, .int .i32 0], row (B1) 30 #[.iface 62 (.pointer (some ⟨ea, 0, none⟩)), .int .i32 loc], row (ea) 65 #[.slice (some ⟨it, 0, none⟩) n n, .int .i32 0, .int .i32 0, .bool false, .bool false], row (it) 30 (itR (vT1 D j) (vB1 D nw2 j) n 0)] (NodT Y D nw2 j n) := by
        rw [← hW]
        exact (hO).alloc' _ (uw5.heap.size) (by simp)
      clear hW hO
      generalize uw5.heap.size = B8 at hN ⊢
      have hO := hN
      clear hN
      have hL := hO.apart
      have hX := hO.apartX
      have HL := Lib.hid hL
      have HX := Lib.hid hX
      clear hL hX
      have hP9 := hO.pick [0, 8, 9] (by decide)
      generalize hX9_10 : Own.Rest _ _ (NodT Y D nw2 j n) = X9_10 at hP9
      replace hP9 : Own w0 W9 [row (B8) 30 #[.iface 40 (.pointer (some ⟨nd7, 0, none⟩)), .int .i32 (2 * (j : Int))], row (ea) 65 #[.slice (some ⟨it, 0, none⟩) n n, .int .i32 0, .int .i32 0, .bool false, .bool false], row (it) 30 (itR (vT1 D j) (vB1 D nw2 j) n 0)] X9_10 := hP9
      clear hO
      have hO := hP9
      clear hP9
      have st9 := rAH0_0_st ea it n D j nw2 nd7 B8
      let R9 := rAH0_0R ea it n D j nw2 nd7 B8
      refine wp_region_own (e := rAH0_0E ea it n D j nw2 nd7 B8) (anc := rAH0_0Anc) (G := (fun L9 α u9 => OwnF w0 u9 (act rAH0_0Cnt 3 L9) (rAH0_0R ea it n D j nw2 nd7 B8 L9 α) X9_10)) (by kernel_rfl) (by kernel_rfl) (by kernel_rfl) (by kernel_rfl) (rAH0_0_he ea it n D j nw2 nd7 B8) ?_ (RunsAll.all ?_) ?_
      · have hp : ∀ i, act rAH0_0Cnt 3 (fun _ => false) i → i ∈ [999, 1999, 2999] := by
          intro i hi
          have h9 : i % 1000 = 999 := by
            by_cases h : i % 1000 = 999
            · exact h
            · exact absurd (act_lt hi h) (by simp)
          unfold act at hi
          rw [if_pos h9] at hi
          simp only [List.mem_cons, List.not_mem_nil, or_false]
          omega
        refine hO.drew.family (fun i hi => ?_) (fun i j hi hj hij => ?_)
        · have := hp i hi
          simp only [List.mem_cons, List.not_mem_nil, or_false] at this
          rcases this with rfl | rfl | rfl <;> rfl
        · have h1 := hp i hi
          have h2 := hp j hj
          simp only [List.mem_cons, List.not_mem_nil, or_false] at h1 h2
          omega
      · refine ⟨?_, ?_, ?_, ?_, ?_, ?_, ?_, ?_, trivial⟩
        · intro L9 α a9 u9 K9 hL hcl hA hG hS h0 h1 hK
          replace hL : L9 0 = false := hL
          have q17 : a9.tmps[17]? = some (.pointer (some ⟨ea, 0, none⟩)) := (h0 17 (by kernel_rfl)).trans rfl
          have s17 := Rega.eval_of q17
          go_simp
          exact hK _ α _ (fun _ _ => rfl) rfl (step_same (st9) hL hcl rfl rfl hG)
        · intro L9 α a9 u9 K9 hL hcl hA hG hS h0 h1 hK
          replace hL : L9 1 = false := hL
          have q206 : a9.tmps[206]? = some (.pointer (some ⟨ea, 0, none⟩)) := hS 0 206 (by decide) rfl (by show 206 < 250; decide)
          have s206 := Rega.eval_of q206
          go_simp
          exact hK _ α _ (fun _ _ => rfl) rfl (step_same (st9) hL hcl rfl rfl hG)
        · intro L9 α a9 u9 K9 hL hcl hA hG hS h0 h1 hK
          replace hL : L9 2 = false := hL
          have q207 : a9.tmps[207]? = some (.pointer (some ⟨ea, 0, none⟩)) := hS 1 207 (by decide) rfl (by show 207 < 250; decide)
          have s207 := Rega.eval_of q207
          go_simp
          exact hK _ α _ (fun _ _ => rfl) rfl (step_same (st9) hL hcl rfl rfl hG)
        · intro L9 α a9 u9 K9 hL hcl hA hG hS h0 h1 hK
          replace hL : L9 3 = false := hL
          have q208 : a9.tmps[208]? = some (.pointer (some ⟨ea, 0, none⟩)) := hS 2 208 (by decide) rfl (by show 208 < 250; decide)
          have s208 := Rega.eval_of q208
          have e0 : R9 L9 α 1999 = row (ea) 65 #[.slice (some ⟨it, 0, none⟩) n n, .int .i32 0, .int .i32 0, .bool false, .bool false] := rfl
          have hr := hG.rowAt 1999 (act_base 1999 rfl) e0
          have c0 : u9.cell? ⟨ea, 0, none⟩ = some (.slice (some ⟨it, 0, none⟩) n n) := hr.cell rfl
          clear hr e0
          go_simp
          exact hK _ α _ (fun _ _ => rfl) rfl (step_same (st9) hL hcl rfl rfl hG)
        · intro L9 α a9 u9 K9 hL hcl hA hG hS h0 h1 hK
          replace hL : L9 4 = false := hL
          have q18 : a9.tmps[18]? = some (.int .i64 (j : Int)) := (h0 18 (by kernel_rfl)).trans rfl
          have s18 := Rega.eval_of q18
          go_simp
          exact hK _ α _ (fun _ _ => rfl) rfl (step_same (st9) hL hcl rfl rfl hG)
        · intro L9 α a9 u9 K9 hL hcl hA hG hS h0 h1 hK
          replace hL : L9 5 = false := hL
          have q20 : a9.tmps[20]? = some (.pointer (some ⟨B8, 0, none⟩)) := (h0 20 (by kernel_rfl)).trans rfl
          have s20 := Rega.eval_of q20
          have e0 : R9 L9 α 999 = row (B8) 30 #[.iface 40 (.pointer (some ⟨nd7, 0, none⟩)), .int .i32 (2 * (j : Int))] := rfl
          have hr := hG.rowAt 999 (act_base 999 rfl) e0
          have c0 : u9.cell? ⟨B8, 0, none⟩ = some (.iface 40 (.pointer (some ⟨nd7, 0, none⟩))) := hr.cell rfl
          have c1 : u9.cell? ⟨B8, 1, none⟩ = some (.int .i32 (2 * (j : Int))) := hr.cell rfl
          clear hr e0
          go_simp
          exact hK _ α _ (fun _ _ => rfl) rfl (step_same (st9) hL hcl rfl rfl hG)
        · intro L9 α a9 u9 K9 hL hcl hA hG hS h0 h1 hK
          replace hL : L9 6 = false := hL
          have q209 : a9.tmps[209]? = some (.slice (some ⟨it, 0, none⟩) n n) := hS 3 209 (by decide) rfl (by show 209 < 250; decide)
          have s209 := Rega.eval_of q209
          have q210 : a9.tmps[210]? = some (.int .i64 (j : Int)) := hS 4 210 (by decide) rfl (by show 210 < 250; decide)
          have s210 := Rega.eval_of q210
          go_simp
          exact hK _ α _ (fun _ _ => rfl) rfl (step_same (st9) hL hcl rfl rfl hG)
        · intro L9 α a9 u9 K9 hL hcl hA hG hS h0 h1 hK
          replace hL : L9 7 = false := hL
          have q212 : a9.tmps[212]? = some (.pointer (some ⟨it, j * 2, none⟩)) := hS 6 212 (by decide) rfl (by show 212 < 250; decide)
          have s212 := Rega.eval_of q212
          have q211 : a9.tmps[211]? = some (.agg #[.iface 40 (.pointer (some ⟨nd7, 0, none⟩)), .int .i32 (2 * (j : Int))]) := hS 5 211 (by decide) rfl (by show 211 < 250; decide)
          have s211 := Rega.eval_of q211
          have e0 : R9 L9 α 2999 = row (it) 30 (itR (vT1 D j) (vB1 D nw2 j) n 0) := by
            show rAH0_0T2999 ea it n D j nw2 nd7 B8 L9 α = _
            unfold rAH0_0T2999
            rw [if_neg (by rw [hL]; decide)]
          have hr := hG.rowAt 2999 (act_base 2999 rfl) e0
          have c0 : u9.cell? ⟨it, j * 2, none⟩ = some (.iface 40 (.pointer (some ⟨(D.nd j), 0, none⟩))) := hr.cell (hc0)
          have y0 : u9.frozen? ⟨it, j * 2, none⟩ = false := hr.free (j * 2)
          have c1 : u9.cell? ⟨it, j * 2 + 1, none⟩ = some (.int .i32 (2 * (j : Int))) := hr.cell (hc1)
          have y1 : u9.frozen? ⟨it, j * 2 + 1, none⟩ = false := hr.free (j * 2 + 1)
          clear hr
          have E0 := Lib.hid e0
          clear e0
          go_simp
          have e1 : R9 (Rega.ran L9 7) α 2999 = row (it) 30 (((itR (vT1 D j) (vB1 D nw2 j) n 0).setIfInBounds (j * 2) (.iface 40 (.pointer (some ⟨nd7, 0, none⟩)))).setIfInBounds (j * 2 + 1) (.int .i32 (2 * (j : Int)))) := by
            show rAH0_0T2999 ea it n D j nw2 nd7 B8 (Rega.ran L9 7) α = _
            unfold rAH0_0T2999
            rw [if_pos (show Rega.ran L9 7 7 = true from rfl)]
          exact hK _ α _ (fun _ _ => rfl) rfl (step_sets (st9) hL hcl rfl 2999 rfl (act_base 2999 rfl) E0.out (j * 2) [.iface 40 (.pointer (some ⟨nd7, 0, none⟩)), .int .i32 (2 * (j : Int))] (e1.trans rfl) hG)
      clear st9
      intro α u hG
      have e0 : R9 (fun k => decide (k < 8)) α 999 = row (B8) 30 #[.iface 40 (.pointer (some ⟨nd7, 0, none⟩)), .int .i32 (2 * (j : Int))] := rfl
      have e1 : R9 (fun k => decide (k < 8)) α 1999 = row (ea) 65 #[.slice (some ⟨it, 0, none⟩) n n, .int .i32 0, .int .i32 0, .bool false, .bool false] := rfl
      have e2 : R9 (fun k => decide (k < 8)) α 2999 = row (it) 30 (((itR (vT1 D j) (vB1 D nw2 j) n 0).setIfInBounds (j * 2) (.iface 40 (.pointer (some ⟨nd7, 0, none⟩)))).setIfInBounds (j * 2 + 1) (.int .i32 (2 * (j : Int)))) := by
        show rAH0_0T2999 ea it n D j nw2 nd7 B8 (fun k => decide (k < 8)) α = _
        unfold rAH0_0T2999
        rw [if_pos (by decide)]
      have hO : Own w0 u [row (B8) 30 #[.iface 40 (.pointer (some ⟨nd7, 0, none⟩)), .int .i32 (2 * (j : Int))], row (ea) 65 #[.slice (some ⟨it, 0, none⟩) n n, .int .i32 0, .int .i32 0, .bool false, .bool false], row (it) 30 (((itR (vT1 D j) (vB1 D nw2 j) n 0).setIfInBounds (j * 2) (.iface 40 (.pointer (some ⟨nd7, 0, none⟩)))).setIfInBounds (j * 2 + 1) (.int .i32 (2 * (j : Int))))] X9_10 := (hG.list [999, 1999, 2999] (by decide) (act_all (by decide))).conv (by
        show [R9 (fun k => decide (k < 8)) α 999, R9 (fun k => decide (k < 8)) α 1999, R9 (fun k => decide (k < 8)) α 2999] = _
        rw [e0, e1, e2])
      clear hG e0 e1 e2 R9
      generalize hfr : Rega.frameAt _ _ _ _ _ = fr
      have hdf : fr = ⟨#[.pointer (some ⟨pb, 0, none⟩), .agg #[.iface 62 (.pointer (some ⟨ea, 0, none⟩)), .int .i32 loc], undef, .pointer (some ⟨B1, 0, none⟩), .pointer (some ⟨B1_1, 0, none⟩), .bool false, .bool b9, undef, undef, undef, undef, undef, undef, undef, undef, undef, undef, .pointer (some ⟨ea, 0, none⟩), .int .i64 (j : Int), .pointer (some ⟨B3, 0, none⟩), .pointer (some ⟨B8, 0, none⟩), .bool true, undef, undef, undef, undef, undef, .pointer (some ⟨B1, 0, none⟩), .iface 62 (.pointer (some ⟨ea, 0, none⟩)), .tuple #[.pointer none, .bool false], .bool false, .pointer none, undef, undef, undef, undef, undef, undef, undef, undef, undef, undef, undef, undef, undef, undef, .tuple #[.pointer none, .bool false], .bool false, .pointer none, undef, undef, undef, undef, undef, undef, undef, undef, undef, undef, undef, undef, undef, undef, undef, undef, undef, undef, undef, undef, undef, undef, undef, undef, .tuple #[.pointer none, .bool false], .bool false, .pointer none, undef, undef, undef, undef, undef, undef, undef, undef, undef, undef, undef, undef, undef, undef, undef, undef, undef, undef, undef, undef, undef, undef, undef, undef, undef, undef, undef, undef, undef, undef, undef, undef, undef, undef, undef, undef, undef, undef, undef, undef, undef, undef, undef, undef, undef, undef, undef, undef, undef, undef, undef, undef, undef, undef, undef, undef, undef, undef, undef, undef, undef, undef, undef, undef, undef, undef, undef, undef, undef, undef, undef, undef, undef, undef, undef, undef, undef, undef, undef, undef, undef, undef, undef, undef, undef, undef, undef, undef, undef, undef, undef, undef, undef, undef, undef, undef, undef, undef, undef, undef, undef, undef, undef, undef, undef, undef, undef, undef, undef, undef, .tuple #[.pointer (some ⟨ea, 0, none⟩), .bool true], .bool true, .pointer (some ⟨ea, 0, none⟩), .pointer (some ⟨ea, 0, none⟩), .pointer (some ⟨ea, 0, none⟩), .pointer (some ⟨ea, 0, none⟩), .slice (some ⟨it, 0, none⟩) n n, .int .i64 (n : Int), .int .i64 (j : Int), .bool true, .int .i64 (j : Int), .pointer (some ⟨it, j * 2, none⟩), .agg #[.iface 40 (.pointer (some ⟨D.nd j, 0, none⟩)), .int .i32 (2 * (j : Int))], .tuple #[.agg #[.iface 40 (.pointer (some ⟨nd7, 0, none⟩)), .int .i32 (2 * (j : Int))], .bool true], .pointer (some ⟨pb, 0, none⟩), .agg #[.iface 40 (.pointer (some ⟨D.nd j, 0, none⟩)), .int .i32 (2 * (j : Int))], .tuple #[.agg #[.iface 40 (.pointer (some ⟨nd7, 0, none⟩)), .int .i32 (2 * (j : Int))], .bool true], .agg #[.iface 40 (.pointer (some ⟨nd7, 0, none⟩)), .int .i32 (2 * (j : Int))], .bool true, .bool true, .pointer (some ⟨ea, 0, none⟩), .pointer (some ⟨ea, 0, none⟩), .pointer (some ⟨ea, 0, none⟩), .slice (some ⟨it, 0, none⟩) n n, .int .i64 (j : Int), .agg #[.iface 40 (.pointer (some ⟨nd7, 0, none⟩)), .int .i32 (2 * (j : Int))], .pointer (some ⟨it, j * 2, none⟩), u213, undef, undef, undef, undef, undef, undef, undef, undef, undef, undef, undef, undef, undef, undef, undef, undef, undef, undef, undef, undef, undef, undef, undef, undef, undef, undef, undef, undef, undef, undef, undef, undef, undef, undef, undef, undef], []⟩ := by rw [← hfr]; kernel_rfl
      clear hfr
      subst hdf
      clear α
      subst hX9_10
      have hN : Own w0 u [row (B8) 30 #[.iface 40 (.pointer (some ⟨nd7, 0, none⟩)), .int .i32 (2 * (j : Int))], row (ea) 65 #[.slice (some ⟨it, 0, none⟩) n n, .int .i32 0, .int .i32 0, .bool false, .bool false], row (it) 30 (((itR (vT1 D j) (vB1 D nw2 j) n 0).setIfInBounds (j * 2) (.iface 40 (.pointer (some ⟨nd7, 0, none⟩)))).setIfInBounds (j * 2 + 1) (.int .i32 (2 * (j : Int)))), row (pb) 206 PC, ((mp, .map #[⟨.string ⟨#[95, 95, 115, 117, 112, 101, 114, 87, 114, 97, 112, 112, 101, 114]⟩, .agg #[.int .i32 0, .int .u32 0, .int .u32 2], 0⟩, ⟨.string ⟨#[95, 95, 115, 117, 112, 101, 114, 71, 101, 116]⟩, .agg #[.int .i32 0, .int .u32 0, .int .u32 3], 1⟩, ⟨.string ⟨#[95, 95, 112, 114, 105, 118, 97, 116, 101, 87, 114, 97, 112, 112, 101, 114]⟩, .agg #[.int .i32 0, .int .u32 0, .int .u32 4], 2⟩] 3) : Rw), row (cr) 68 #[.int .u32 0, .int .u32 1], row (nd7) 44 #[.iface 52 (.pointer (some ⟨nd6, 0, none⟩)), .int .i32 (2 * (j : Int)), .string ⟨#[95]⟩, .int .i32 (2 * (j : Int)), .int .u8 0, .bool false, .bool false, .bool false], row (B3) 30 #[.iface 40 (.pointer (some ⟨D.nd j, 0, none⟩)), .int .i32 (2 * (j : Int))], row (B1_1) 30 #[.nilIface, .int .i32 0], row (B1) 30 #[.iface 62 (.pointer (some ⟨ea, 0, none⟩)), .int .i32 loc]] (NodT Y D nw2 j n) := hO.back HL.out HX.out [1, 2, 3, 4, 5, 6, 7] (by decide) (by decide)
      clear hO HL HX
      have hO := hN
      clear hN
      obtain ⟨c9_0_0, c9_0_1, lt9_0, y9_0, -⟩ := hO.k2 0 rfl
      obtain ⟨c9_1_0, c9_1_1, c9_1_2, c9_1_3, c9_1_4, lt9_1, y9_1, -⟩ := hO.k5 1 rfl
      obtain ⟨c9_5_0, c9_5_1, lt9_5, y9_5, -⟩ := hO.k2 5 rfl
      obtain ⟨c9_6_0, c9_6_1, c9_6_2, c9_6_3, c9_6_4, c9_6_5, c9_6_6, c9_6_7, lt9_6, y9_6, -⟩ := hO.k8 6 rfl
      obtain ⟨c9_7_0, c9_7_1, lt9_7, y9_7, -⟩ := hO.k2 7 rfl
      obtain ⟨c9_8_0, c9_8_1, lt9_8, y9_8, -⟩ := hO.k2 8 rfl
      obtain ⟨c9_9_0, c9_9_1, lt9_9, y9_9, -⟩ := hO.k2 9 rfl
      have HO := Lib.hid hO
      clear hO
      go_wp2_with (first | (with_reducible refine Own.stay (fn := Tryd.f35) ?_) | (first | (go_at_call 34; go_in)))
      try with_reducible refine Own.Stay.mk ?_
      have hO := HO.out
      clear HO c9_0_0 c9_0_1 lt9_0 y9_0 c9_1_0 c9_1_1 c9_1_2 c9_1_3 c9_1_4 lt9_1 y9_1 c9_5_0 c9_5_1 lt9_5 y9_5 c9_6_0 c9_6_1 c9_6_2 c9_6_3 c9_6_4 c9_6_5 c9_6_6 c9_6_7 lt9_6 y9_6 c9_7_0 c9_7_1 lt9_7 y9_7 c9_8_0 c9_8_1 lt9_8 y9_8 c9_9_0 c9_9_1 lt9_9 y9_9
      have hN : Own w0 u [row (nd7) 44 #[.iface 52 (.pointer (some ⟨nd6, 0, none⟩)), .int .i32 (2 * (j : Int)), .string ⟨#[95]⟩, .int .i32 (2 * (j : Int)), .int .u8 0, .bool false, .bool false, .bool false], row (B1_1) 30 #[.nilIface, .int .i32 0], row (B1) 30 #[.iface 62 (.pointer (some ⟨ea, 0, none⟩)), .int .i32 loc], row (pb) 206 PC, ((mp, .map #[⟨.string ⟨#[95, 95, 115, 117, 112, 101, 114, 87, 114, 97, 112, 112, 101, 114]⟩, .agg #[.int .i32 0, .int .u32 0, .int .u32 2], 0⟩, ⟨.string ⟨#[95, 95, 115, 117, 112, 101, 114, 71, 101, 116]⟩, .agg #[.int .i32 0, .int .u32 0, .int .u32 3], 1⟩, ⟨.string ⟨#[95, 95, 112, 114, 105, 118, 97, 116, 101, 87, 114, 97, 112, 112, 101, 114]⟩, .agg #[.int .i32 0, .int .u32 0, .int .u32 4], 2⟩] 3) : Rw), row (cr) 68 #[.int .u32 0, .int .u32 1], row (ea) 65 #[.slice (some ⟨it, 0, none⟩) n n, .int .i32 0, .int .i32 0, .bool false, .bool false], row (it) 30 (itR (vT1 D (j + 1)) (vB1 D (updN nw2 j nd7) (j + 1)) n 0)] (NodT Y D nw2 j n) := (hO.sub [6, 8, 9, 3, 4, 5, 1, 2] (by decide)).conv (by
        rw [← itR_set hlt v1_other (v1_hot (nw := nw2) (a := nd7) (by rw [HKJ.out]; decide)).1 (v1_hot (nw := nw2) (a := nd7) (by rw [HKJ.out]; decide)).2]
        rfl)
      have hP := NodT.pass nd7 (show ¬ isT D j from by unfold isT; rw [HKJ.out]; decide) hN
      obtain ⟨hM, hs9⟩ := NodT.addS hP HSY.out
      go_roundg gq
      case measure => omega
      case rel => exact ⟨j + 1, true, (updN nw2 j nd7), _, by omega, rfl, by first | rfl | simp, fun b o h => Or.inl (HXY.out b o h), fun i hi h2 h4 => by
        by_cases e : i = j
        · subst e
          rw [show (updN nw2 i nd7) i = nd7 from if_pos rfl]
          exact ⟨52, nd6, _, _, _, (fun _ => by decide), addX_r⟩
        · rw [show (updN nw2 j nd7) i = nw2 i from if_neg e]
          exact (HDT.out i (by omega) h2 h4).mono addX_l, hs9, hM⟩
    · skip
      have hy := HXY.out _ _ hx
      clear hx
      have hv0 : vT1 D j j = 209 := by rw [hvt, hkj]; rfl
      have hc0 : (itR (vT1 D j) (vB1 D nw2 j) n 0)[j * 2]? = some (.iface 209 (.pointer (some ⟨(D.nd j), 0, none⟩))) := by
        have h9 := itR_at0 (t := vT1 D j) (b := vB1 D nw2 j) (g := 0) hlt
        rwa [hv0, hvb] at h9
      have hc1 : (itR (vT1 D j) (vB1 D nw2 j) n 0)[j * 2 + 1]? = some (.int .i32 (2 * (j : Int))) := itR_at1 hlt
      have HV := Lib.hid (And.intro hvt (And.intro hvb hv0))
      clear hvt hvb hv0
      have HY := Lib.hid hy
      clear hy
      have HKJ := Lib.hid hkj
      clear hkj
      obtain ⟨ix9, hix9, hax9, hjx9⟩ := hO.ix
      have ix9_0 : ix9 B1_1 = 0 := hjx9 0 _ _ rfl
      have ix9_1 : ix9 B1 = 1 := hjx9 1 _ _ rfl
      have ix9_2 : ix9 pb = 2 := hjx9 2 _ _ rfl
      have ix9_3 : ix9 mp = 3 := hjx9 3 _ _ rfl
      have ix9_4 : ix9 cr = 4 := hjx9 4 _ _ rfl
      have ix9_5 : ix9 ea = 5 := hjx9 5 _ _ rfl
      have ix9_6 : ix9 it = 6 := hjx9 6 _ _ rfl
      clear hjx9
      obtain ⟨c9_0_0, c9_0_1, lt9_0, y9_0, pl9_0⟩ := hO.k2 0 rfl
      obtain ⟨c9_1_0, c9_1_1, lt9_1, y9_1, pl9_1⟩ := hO.k2 1 rfl
      have c9_2_32 : wr.cell? ⟨pb, 32, none⟩ = some (.bool false) := hO.cell 2 rfl (32) (hD.ts)
      have c9_2_95 : wr.cell? ⟨pb, 95, none⟩ = some (.bool r) := hO.cell 2 rfl (95) (hD.rep)
      have c9_2_96 : wr.cell? ⟨pb, 96, none⟩ = some (.bool s) := hO.cell 2 rfl (96) (hD.stat)
      have c9_2_97 : wr.cell? ⟨pb, 97, none⟩ = some (.pointer (some ⟨cr, 0, none⟩)) := hO.cell 2 rfl (97) (hD.cls)
      have c9_2_117 : wr.cell? ⟨pb, 117, none⟩ = some (.map (some mp)) := hO.cell 2 rfl (117) (hD.imp)
      have c9_2_338 : wr.cell? ⟨pb, 338, none⟩ = some (.bool true) := hO.cell 2 rfl (338) (hl)
      have c9_2_350 : wr.cell? ⟨pb, 350, none⟩ = some (.bool true) := hO.cell 2 rfl (350) (hD.dead)
      have lt9_2 : pb < wr.heap.size := hO.lt 2 rfl
      have y9_2 : ∀ o, wr.frozen? ⟨pb, o, none⟩ = false := hO.free 2 rfl
      obtain ⟨c9_4_0, c9_4_1, lt9_4, y9_4, -⟩ := hO.k2 4 rfl
      obtain ⟨c9_5_0, c9_5_1, c9_5_2, c9_5_3, c9_5_4, lt9_5, y9_5, -⟩ := hO.k5 5 rfl
      have pl9_6 : Base.plainAt wr (it) = true := hO.plain 6 rfl
      have c9_6_j_2 : wr.cell? ⟨it, j * 2, none⟩ = some (.iface 209 (.pointer (some ⟨(D.nd j), 0, none⟩))) := hO.cell 6 rfl (j * 2) (hc0)
      have c9_6_j_2_1 : wr.cell? ⟨it, j * 2 + 1, none⟩ = some (.int .i32 (2 * (j : Int))) := hO.cell 6 rfl (j * 2 + 1) (hc1)
      have lt9_6 : it < wr.heap.size := hO.lt 6 rfl
      have y9_6 : ∀ o, wr.frozen? ⟨it, o, none⟩ = false := hO.free 6 rfl
      have HO := Lib.hid hO
      clear hO
      go_wp2_with (first | (with_reducible refine Own.stay (fn := Tryd.f35) ?_) | (first | (go_at_call 34; go_in)))
      try with_reducible refine Own.Stay.mk ?_
      have hO := HO.out
      clear HO hix9 hax9 ix9_0 ix9_1 ix9_2 ix9_3 ix9_4 ix9_5 ix9_6 ix9 c9_0_0 c9_0_1 lt9_0 y9_0 pl9_0 c9_1_0 c9_1_1 lt9_1 y9_1 pl9_1 c9_2_32 c9_2_95 c9_2_96 c9_2_97 c9_2_117 c9_2_338 c9_2_350 lt9_2 y9_2 c9_4_0 c9_4_1 lt9_4 y9_4 c9_5_0 c9_5_1 c9_5_2 c9_5_3 c9_5_4 lt9_5 y9_5 pl9_6 c9_6_j_2 c9_6_j_2_1 lt9_6 y9_6
      generalize hW : World.alloc _ _ = W12
      have hN : Own w0 W12 [row (wr.heap.size) 30 #[.iface 209 (.pointer (some ⟨D.nd j, 0, none⟩)), .int .i32 (2 * (j : Int))], row (B1_1) 30 #[.nilIface, .int .i32 0], row (B1) 30 #[.iface 62 (.pointer (some ⟨ea, 0, none⟩)), .int .i32 loc], row (pb) 206 PC, ((mp, .map #[⟨.string ⟨#[95, 95, 115, 117, 112, 101, 114, 87, 114, 97, 112, 112, 101, 114]⟩, .agg #[.int .i32 0, .int .u32 0, .int .u32 2], 0⟩, ⟨.string ⟨#[95, 95, 115, 117, 112, 101, 114, 71, 101, 116]⟩, .agg #[.int .i32 0, .int .u32 0, .int .u32 3], 1⟩, ⟨.string ⟨#[95, 95, 112, 114, 105, 118, 97, 116, 101, 87, 114, 97, 112, 112, 101, 114]⟩, .agg #[.int .i32 0, .int .u32 0, .int .u32 4], 2⟩] 3) : Rw), row (cr) 68 #[.int .u32 0, .int .u32 1], row (ea) 65 #[.slice (some ⟨it, 0, none⟩) n n, .int .i32 0, .int .i32 0, .bool false, .bool false], row (it) 30 (itR (vT1 D j) (vB1 D nw2 j) n 0)] (NodT Y D nw2 j n) := by
        rw [← hW]
        exact (hO).alloc' _ (wr.heap.size) (by simp)
      clear hW hO
      generalize wr.heap.size = B11 at hN ⊢
      have hO := hN
      clear hN
      have hL := hO.apart
      have hX := hO.apartX
      have HL := Lib.hid hL
      have HX := Lib.hid hX
      clear hL hX
      have hP9 := hO.pick [3, 4, 5] (by decide)
      have T9 := hotx pb PC mp cr r s (2 * (j : Int)) (D.nd j) kx (2 * (j : Int)) ib (2 * (j : Int) + 1) _ _ _ hP9 hD hl (Or.inl (Or.inl HY.out))
      refine Calls.mono T9 ?_
      clear hP9 T9
      rintro e uw13 ⟨nd14, nd15, rfl, hQ⟩
      have hN : Own w0 uw13 [row (pb) 206 PC, ((mp, .map #[⟨.string ⟨#[95, 95, 115, 117, 112, 101, 114, 87, 114, 97, 112, 112, 101, 114]⟩, .agg #[.int .i32 0, .int .u32 0, .int .u32 2], 0⟩, ⟨.string ⟨#[95, 95, 115, 117, 112, 101, 114, 71, 101, 116]⟩, .agg #[.int .i32 0, .int .u32 0, .int .u32 3], 1⟩, ⟨.string ⟨#[95, 95, 112, 114, 105, 118, 97, 116, 101, 87, 114, 97, 112, 112, 101, 114]⟩, .agg #[.int .i32 0, .int .u32 0, .int .u32 4], 2⟩] 3) : Rw), row (cr) 68 #[.int .u32 0, .int .u32 1], row (nd15) 44 #[.iface 52 (.pointer (some ⟨nd14, 0, none⟩)), .int .i32 (2 * (j : Int)), .string ⟨#[95]⟩, .int .i32 (2 * (j : Int)), .int .u8 0, .bool false, .bool false, .bool false], row (B11) 30 #[.iface 209 (.pointer (some ⟨D.nd j, 0, none⟩)), .int .i32 (2 * (j : Int))], row (B1_1) 30 #[.nilIface, .int .i32 0], row (B1) 30 #[.iface 62 (.pointer (some ⟨ea, 0, none⟩)), .int .i32 loc], row (ea) 65 #[.slice (some ⟨it, 0, none⟩) n n, .int .i32 0, .int .i32 0, .bool false, .bool false], row (it) 30 (itR (vT1 D j) (vB1 D nw2 j) n 0)] (NodT Y D nw2 j n) := hQ.back HL.out HX.out [0, 1, 2, 6, 7] (by decide) (by decide)
      clear hQ HL HX hO
      have hO := hN
      clear hN
      obtain ⟨c9_2_0, c9_2_1, lt9_2, y9_2, -⟩ := hO.k2 2 rfl
      obtain ⟨c9_3_0, c9_3_1, c9_3_2, c9_3_3, c9_3_4, c9_3_5, c9_3_6, c9_3_7, lt9_3, y9_3, -⟩ := hO.k8 3 rfl
      obtain ⟨c9_4_0, c9_4_1, lt9_4, y9_4, -⟩ := hO.k2 4 rfl
      obtain ⟨c9_5_0, c9_5_1, lt9_5, y9_5, -⟩ := hO.k2 5 rfl
      obtain ⟨c9_6_0, c9_6_1, lt9_6, y9_6, -⟩ := hO.k2 6 rfl
      obtain ⟨c9_7_0, c9_7_1, c9_7_2, c9_7_3, c9_7_4, lt9_7, y9_7, -⟩ := hO.k5 7 rfl
      have HO := Lib.hid hO
      clear hO
      go_wp2_with (first | (with_reducible refine Own.stay (fn := Tryd.f35) ?_) | (first | (go_at_call 34; go_in)))
      try with_reducible refine Own.Stay.mk ?_
      have hO := HO.out
      clear HO c9_2_0 c9_2_1 lt9_2 y9_2 c9_3_0 c9_3_1 c9_3_2 c9_3_3 c9_3_4 c9_3_5 c9_3_6 c9_3_7 lt9_3 y9_3 c9_4_0 c9_4_1 lt9_4 y9_4 c9_5_0 c9_5_1 lt9_5 y9_5 c9_6_0 c9_6_1 lt9_6 y9_6 c9_7_0 c9_7_1 c9_7_2 c9_7_3 c9_7_4 lt9_7 y9_7
      generalize hW : World.alloc _ _ = W17
      have hN : Own w0 W17 [row (uw13.heap.size) 30 #[.iface 40 (.pointer (some ⟨nd15, 0, none⟩)), .int .i32 (2 * (j : Int))], row (pb) 206 PC, ((mp, .map #[⟨.string ⟨#[95, 95, 115, 117, 112, 101, 114, 87, 114, 97, 112, 112, 101, 114]⟩, .agg #[.int .i32 0, .int .u32 0, .int .u32 2], 0⟩, ⟨.string ⟨#[95, 95, 115, 117, 112, 101, 114, 71, 101, 116]⟩, .agg #[.int .i32 0, .int .u32 0, .int .u32 3], 1⟩, ⟨.string ⟨#[95, 95, 112, 114, 105, 118, 97, 116, 101, 87, 114, 97, 112, 112, 101, 114]⟩, .agg #[.int .i32 0, .int .u32 0, .int .u32 4], 2⟩] 3) : Rw), row (cr) 68 #[.int .u32 0, .int .u32 1], row (nd15) 44 #[.iface 52 (.pointer (some ⟨nd14, 0, none⟩)), .int .i32 (2 * (j : Int)), .string ⟨#[95]⟩, .int .i32 (2 * (j : Int)), .int .u8 0, .bool false, .bool false, .bool false], row (B11) 30 #[.iface 209 (.pointer (some ⟨D.nd j, 0, none⟩)), .int .i32 (2 * (j : Int))], row (B1_1) 30 #[.nilIface, .int .i32 0], row (B1) 30 #[.iface 62 (.pointer (some ⟨ea, 0, none⟩)), .int .i32 loc], row (ea) 65 #[.slice (some ⟨it, 0, none⟩) n n, .int .i32 0, .int .i32 0, .bool false, .bool false], row (it) 30 (itR (vT1 D j) (vB1 D nw2 j) n 0)] (NodT Y D nw2 j n) := by
        rw [← hW]
        exact (hO).alloc' _ (uw13.heap.size) (by simp)
      clear hW hO
      generalize uw13.heap.size = B16 at hN ⊢
      have hO := hN
      clear hN
      have hL := hO.apart
      have hX := hO.apartX
      have HL := Lib.hid hL
      have HX := Lib.hid hX
      clear hL hX
      have hP9 := hO.pick [0, 8, 9] (by decide)
      generalize hX9_18 : Own.Rest _ _ (NodT Y D nw2 j n) = X9_18 at hP9
      replace hP9 : Own w0 W17 [row (B16) 30 #[.iface 40 (.pointer (some ⟨nd15, 0, none⟩)), .int .i32 (2 * (j : Int))], row (ea) 65 #[.slice (some ⟨it, 0, none⟩) n n, .int .i32 0, .int .i32 0, .bool false, .bool false], row (it) 30 (itR (vT1 D j) (vB1 D nw2 j) n 0)] X9_18 := hP9
      clear hO
      have hO := hP9
      clear hP9
      have st9 := rAH1_0_st ea it n D j nw2 nd15 B16
      let R9 := rAH1_0R ea it n D j nw2 nd15 B16
      refine wp_region_own (e := rAH1_0E ea it n D j nw2 nd15 B16) (anc := rAH1_0Anc) (G := (fun L9 α u9 => OwnF w0 u9 (act rAH1_0Cnt 3 L9) (rAH1_0R ea it n D j nw2 nd15 B16 L9 α) X9_18)) (by kernel_rfl) (by kernel_rfl) (by kernel_rfl) (by kernel_rfl) (rAH1_0_he ea it n D j nw2 nd15 B16) ?_ (RunsAll.all ?_) ?_
      · have hp : ∀ i, act rAH1_0Cnt 3 (fun _ => false) i → i ∈ [999, 1999, 2999] := by
          intro i hi
          have h9 : i % 1000 = 999 := by
            by_cases h : i % 1000 = 999
            · exact h
            · exact absurd (act_lt hi h) (by simp)
          unfold act at hi
          rw [if_pos h9] at hi
          simp only [List.mem_cons, List.not_mem_nil, or_false]
          omega
        refine hO.drew.family (fun i hi => ?_) (fun i j hi hj hij => ?_)
        · have := hp i hi
          simp only [List.mem_cons, List.not_mem_nil, or_false] at this
          rcases this with rfl | rfl | rfl <;> rfl
        · have h1 := hp i hi
          have h2 := hp j hj
          simp only [List.mem_cons, List.not_mem_nil, or_false] at h1 h2
          omega
      · refine ⟨?_, ?_, ?_, ?_, ?_, ?_, ?_, ?_, trivial⟩
        · intro L9 α a9 u9 K9 hL hcl hA hG hS h0 h1 hK
          replace hL : L9 0 = false := hL
          have q17 : a9.tmps[17]? = some (.pointer (some ⟨ea, 0, none⟩)) := (h0 17 (by kernel_rfl)).trans rfl
          have s17 := Rega.eval_of q17
          go_simp
          exact hK _ α _ (fun _ _ => rfl) rfl (step_same (st9) hL hcl rfl rfl hG)
        · intro L9 α a9 u9 K9 hL hcl hA hG hS h0 h1 hK
          replace hL : L9 1 = false := hL
          have q206 : a9.tmps[206]? = some (.pointer (some ⟨ea, 0, none⟩)) := hS 0 206 (by decide) rfl (by show 206 < 250; decide)
          have s206 := Rega.eval_of q206
          go_simp
          exact hK _ α _ (fun _ _ => rfl) rfl (step_same (st9) hL hcl rfl rfl hG)
        · intro L9 α a9 u9 K9 hL hcl hA hG hS h0 h1 hK
          replace hL : L9 2 = false := hL
          have q207 : a9.tmps[207]? = some (.pointer (some ⟨ea, 0, none⟩)) := hS 1 207 (by decide) rfl (by show 207 < 250; decide)
          have s207 := Rega.eval_of q207
          go_simp
          exact hK _ α _ (fun _ _ => rfl) rfl (step_same (st9) hL hcl rfl rfl hG)
        · intro L9 α a9 u9 K9 hL hcl hA hG hS h0 h1 hK
          replace hL : L9 3 = false := hL
          have q208 : a9.tmps[208]? = some (.pointer (some ⟨ea, 0, none⟩)) := hS 2 208 (by decide) rfl (by show 208 < 250; decide)
          have s208 := Rega.eval_of q208
          have e0 : R9 L9 α 1999 = row (ea) 65 #[.slice (some ⟨it, 0, none⟩) n n, .int .i32 0, .int .i32 0, .bool false, .bool false] := rfl
          have hr := hG.rowAt 1999 (act_base 1999 rfl) e0
          have c0 : u9.cell? ⟨ea, 0, none⟩ = some (.slice (some ⟨it, 0, none⟩) n n) := hr.cell rfl
          clear hr e0
          go_simp
          exact hK _ α _ (fun _ _ => rfl) rfl (step_same (st9) hL hcl rfl rfl hG)
        · intro L9 α a9 u9 K9 hL hcl hA hG hS h0 h1 hK
          replace hL : L9 4 = false := hL
          have q18 : a9.tmps[18]? = some (.int .i64 (j : Int)) := (h0 18 (by kernel_rfl)).trans rfl
          have s18 := Rega.eval_of q18
          go_simp
          exact hK _ α _ (fun _ _ => rfl) rfl (step_same (st9) hL hcl rfl rfl hG)
        · intro L9 α a9 u9 K9 hL hcl hA hG hS h0 h1 hK
          replace hL : L9 5 = false := hL
          have q20 : a9.tmps[20]? = some (.pointer (some ⟨B16, 0, none⟩)) := (h0 20 (by kernel_rfl)).trans rfl
          have s20 := Rega.eval_of q20
          have e0 : R9 L9 α 999 = row (B16) 30 #[.iface 40 (.pointer (some ⟨nd15, 0, none⟩)), .int .i32 (2 * (j : Int))] := rfl
          have hr := hG.rowAt 999 (act_base 999 rfl) e0
          have c0 : u9.cell? ⟨B16, 0, none⟩ = some (.iface 40 (.pointer (some ⟨nd15, 0, none⟩))) := hr.cell rfl
          have c1 : u9.cell? ⟨B16, 1, none⟩ = some (.int .i32 (2 * (j : Int))) := hr.cell rfl
          clear hr e0
          go_simp
          exact hK _ α _ (fun _ _ => rfl) rfl (step_same (st9) hL hcl rfl rfl hG)
        · intro L9 α a9 u9 K9 hL hcl hA hG hS h0 h1 hK
          replace hL : L9 6 = false := hL
          have q209 : a9.tmps[209]? = some (.slice (some ⟨it, 0, none⟩) n n) := hS 3 209 (by decide) rfl (by show 209 < 250; decide)
          have s209 := Rega.eval_of q209
          have q210 : a9.tmps[210]? = some (.int .i64 (j : Int)) := hS 4 210 (by decide) rfl (by show 210 < 250; decide)
          have s210 := Rega.eval_of q210
          go_simp
          exact hK _ α _ (fun _ _ => rfl) rfl (step_same (st9) hL hcl rfl rfl hG)
        · intro L9 α a9 u9 K9 hL hcl hA hG hS h0 h1 hK
          replace hL : L9 7 = false := hL
          have q212 : a9.tmps[212]? = some (.pointer (some ⟨it, j * 2, none⟩)) := hS 6 212 (by decide) rfl (by show 212 < 250; decide)
          have s212 := Rega.eval_of q212
          have q211 : a9.tmps[211]? = some (.agg #[.iface 40 (.pointer (some ⟨nd15, 0, none⟩)), .int .i32 (2 * (j : Int))]) := hS 5 211 (by decide) rfl (by show 211 < 250; decide)
          have s211 := Rega.eval_of q211
          have e0 : R9 L9 α 2999 = row (it) 30 (itR (vT1 D j) (vB1 D nw2 j) n 0) := by
            show rAH1_0T2999 ea it n D j nw2 nd15 B16 L9 α = _
            unfold rAH1_0T2999
            rw [if_neg (by rw [hL]; decide)]
          have hr := hG.rowAt 2999 (act_base 2999 rfl) e0
          have c0 : u9.cell? ⟨it, j * 2, none⟩ = some (.iface 209 (.pointer (some ⟨(D.nd j), 0, none⟩))) := hr.cell (hc0)
          have y0 : u9.frozen? ⟨it, j * 2, none⟩ = false := hr.free (j * 2)
          have c1 : u9.cell? ⟨it, j * 2 + 1, none⟩ = some (.int .i32 (2 * (j : Int))) := hr.cell (hc1)
          have y1 : u9.frozen? ⟨it, j * 2 + 1, none⟩ = false := hr.free (j * 2 + 1)
          clear hr
          have E0 := Lib.hid e0
          clear e0
          go_simp
          have e1 : R9 (Rega.ran L9 7) α 2999 = row (it) 30 (((itR (vT1 D j) (vB1 D nw2 j) n 0).setIfInBounds (j * 2) (.iface 40 (.pointer (some ⟨nd15, 0, none⟩)))).setIfInBounds (j * 2 + 1) (.int .i32 (2 * (j : Int)))) := by
            show rAH1_0T2999 ea it n D j nw2 nd15 B16 (Rega.ran L9 7) α = _
            unfold rAH1_0T2999
            rw [if_pos (show Rega.ran L9 7 7 = true from rfl)]
          exact hK _ α _ (fun _ _ => rfl) rfl (step_sets (st9) hL hcl rfl 2999 rfl (act_base 2999 rfl) E0.out (j * 2) [.iface 40 (.pointer (some ⟨nd15, 0, none⟩)), .int .i32 (2 * (j : Int))] (e1.trans rfl) hG)
      clear st9
      intro α u hG
      have e0 : R9 (fun k => decide (k < 8)) α 999 = row (B16) 30 #[.iface 40 (.pointer (some ⟨nd15, 0, none⟩)), .int .i32 (2 * (j : Int))] := rfl
      have e1 : R9 (fun k => decide (k < 8)) α 1999 = row (ea) 65 #[.slice (some ⟨it, 0, none⟩) n n, .int .i32 0, .int .i32 0, .bool false, .bool false] := rfl
      have e2 : R9 (fun k => decide (k < 8)) α 2999 = row (it) 30 (((itR (vT1 D j) (vB1 D nw2 j) n 0).setIfInBounds (j * 2) (.iface 40 (.pointer (some ⟨nd15, 0, none⟩)))).setIfInBounds (j * 2 + 1) (.int .i32 (2 * (j : Int)))) := by
        show rAH1_0T2999 ea it n D j nw2 nd15 B16 (fun k => decide (k < 8)) α = _
        unfold rAH1_0T2999
        rw [if_pos (by decide)]
      have hO : Own w0 u [row (B16) 30 #[.iface 40 (.pointer (some ⟨nd15, 0, none⟩)), .int .i32 (2 * (j : Int))], row (ea) 65 #[.slice (some ⟨it, 0, none⟩) n n, .int .i32 0, .int .i32 0, .bool false, .bool false], row (it) 30 (((itR (vT1 D j) (vB1 D nw2 j) n 0).setIfInBounds (j * 2) (.iface 40 (.pointer (some ⟨nd15, 0, none⟩)))).setIfInBounds (j * 2 + 1) (.int .i32 (2 * (j : Int))))] X9_18 := (hG.list [999, 1999, 2999] (by decide) (act_all (by decide))).conv (by
        show [R9 (fun k => decide (k < 8)) α 999, R9 (fun k => decide (k < 8)) α 1999, R9 (fun k => decide (k < 8)) α 2999] = _
        rw [e0, e1, e2])
      clear hG e0 e1 e2 R9
      generalize hfr : Rega.frameAt _ _ _ _ _ = fr
      have hdf : fr = ⟨#[.pointer (some ⟨pb, 0, none⟩), .agg #[.iface 62 (.pointer (some ⟨ea, 0, none⟩)), .int .i32 loc], undef, .pointer (some ⟨B1, 0, none⟩), .pointer (some ⟨B1_1, 0, none⟩), .bool false, .bool b9, undef, undef, undef, undef, undef, undef, undef, undef, undef, undef, .pointer (some ⟨ea, 0, none⟩), .int .i64 (j : Int), .pointer (some ⟨B11, 0, none⟩), .pointer (some ⟨B16, 0, none⟩), .bool true, undef, undef, undef, undef, undef, .pointer (some ⟨B1, 0, none⟩), .iface 62 (.pointer (some ⟨ea, 0, none⟩)), .tuple #[.pointer none, .bool false], .bool false, .pointer none, undef, undef, undef, undef, undef, undef, undef, undef, undef, undef, undef, undef, undef, undef, .tuple #[.pointer none, .bool false], .bool false, .pointer none, undef, undef, undef, undef, undef, undef, undef, undef, undef, undef, undef, undef, undef, undef, undef, undef, undef, undef, undef, undef, undef, undef, undef, undef, .tuple #[.pointer none, .bool false], .bool false, .pointer none, undef, undef, undef, undef, undef, undef, undef, undef, undef, undef, undef, undef, undef, undef, undef, undef, undef, undef, undef, undef, undef, undef, undef, undef, undef, undef, undef, undef, undef, undef, undef, undef, undef, undef, undef, undef, undef, undef, undef, undef, undef, undef, undef, undef, undef, undef, undef, undef, undef, undef, undef, undef, undef, undef, undef, undef, undef, undef, undef, undef, undef, undef, undef, undef, undef, undef, undef, undef, undef, undef, undef, undef, undef, undef, undef, undef, undef, undef, undef, undef, undef, undef, undef, undef, undef, undef, undef, undef, undef, undef, undef, undef, undef, undef, undef, undef, undef, undef, undef, undef, undef, undef, undef, undef, undef, undef, undef, undef, undef, undef, .tuple #[.pointer (some ⟨ea, 0, none⟩), .bool true], .bool true, .pointer (some ⟨ea, 0, none⟩), .pointer (some ⟨ea, 0, none⟩), .pointer (some ⟨ea, 0, none⟩), .pointer (some ⟨ea, 0, none⟩), .slice (some ⟨it, 0, none⟩) n n, .int .i64 (n : Int), .int .i64 (j : Int), .bool true, .int .i64 (j : Int), .pointer (some ⟨it, j * 2, none⟩), .agg #[.iface 209 (.pointer (some ⟨D.nd j, 0, none⟩)), .int .i32 (2 * (j : Int))], .tuple #[.agg #[.iface 40 (.pointer (some ⟨nd15, 0, none⟩)), .int .i32 (2 * (j : Int))], .bool true], .pointer (some ⟨pb, 0, none⟩), .agg #[.iface 209 (.pointer (some ⟨D.nd j, 0, none⟩)), .int .i32 (2 * (j : Int))], .tuple #[.agg #[.iface 40 (.pointer (some ⟨nd15, 0, none⟩)), .int .i32 (2 * (j : Int))], .bool true], .agg #[.iface 40 (.pointer (some ⟨nd15, 0, none⟩)), .int .i32 (2 * (j : Int))], .bool true, .bool true, .pointer (some ⟨ea, 0, none⟩), .pointer (some ⟨ea, 0, none⟩), .pointer (some ⟨ea, 0, none⟩), .slice (some ⟨it, 0, none⟩) n n, .int .i64 (j : Int), .agg #[.iface 40 (.pointer (some ⟨nd15, 0, none⟩)), .int .i32 (2 * (j : Int))], .pointer (some ⟨it, j * 2, none⟩), u213, undef, undef, undef, undef, undef, undef, undef, undef, undef, undef, undef, undef, undef, undef, undef, undef, undef, undef, undef, undef, undef, undef, undef, undef, undef, undef, undef, undef, undef, undef, undef, undef, undef, undef, undef, undef], []⟩ := by rw [← hfr]; kernel_rfl
      clear hfr
      subst hdf
      clear α
      subst hX9_18
      have hN : Own w0 u [row (B16) 30 #[.iface 40 (.pointer (some ⟨nd15, 0, none⟩)), .int .i32 (2 * (j : Int))], row (ea) 65 #[.slice (some ⟨it, 0, none⟩) n n, .int .i32 0, .int .i32 0, .bool false, .bool false], row (it) 30 (((itR (vT1 D j) (vB1 D nw2 j) n 0).setIfInBounds (j * 2) (.iface 40 (.pointer (some ⟨nd15, 0, none⟩)))).setIfInBounds (j * 2 + 1) (.int .i32 (2 * (j : Int)))), row (pb) 206 PC, ((mp, .map #[⟨.string ⟨#[95, 95, 115, 117, 112, 101, 114, 87, 114, 97, 112, 112, 101, 114]⟩, .agg #[.int .i32 0, .int .u32 0, .int .u32 2], 0⟩, ⟨.string ⟨#[95, 95, 115, 117, 112, 101, 114, 71, 101, 116]⟩, .agg #[.int .i32 0, .int .u32 0, .int .u32 3], 1⟩, ⟨.string ⟨#[95, 95, 112, 114, 105, 118, 97, 116, 101, 87, 114, 97, 112, 112, 101, 114]⟩, .agg #[.int .i32 0, .int .u32 0, .int .u32 4], 2⟩] 3) : Rw), row (cr) 68 #[.int .u32 0, .int .u32 1], row (nd15) 44 #[.iface 52 (.pointer (some ⟨nd14, 0, none⟩)), .int .i32 (2 * (j : Int)), .string ⟨#[95]⟩, .int .i32 (2 * (j : Int)), .int .u8 0, .bool false, .bool false, .bool false], row (B11) 30 #[.iface 209 (.pointer (some ⟨D.nd j, 0, none⟩)), .int .i32 (2 * (j : Int))], row (B1_1) 30 #[.nilIface, .int .i32 0], row (B1) 30 #[.iface 62 (.pointer (some ⟨ea, 0, none⟩)), .int .i32 loc]] (NodT Y D nw2 j n) := hO.back HL.out HX.out [1, 2, 3, 4, 5, 6, 7] (by decide) (by decide)
      clear hO HL HX
      have hO := hN
      clear hN
      obtain ⟨c9_0_0, c9_0_1, lt9_0, y9_0, -⟩ := hO.k2 0 rfl
      obtain ⟨c9_1_0, c9_1_1, c9_1_2, c9_1_3, c9_1_4, lt9_1, y9_1, -⟩ := hO.k5 1 rfl
      obtain ⟨c9_5_0, c9_5_1, lt9_5, y9_5, -⟩ := hO.k2 5 rfl
      obtain ⟨c9_6_0, c9_6_1, c9_6_2, c9_6_3, c9_6_4, c9_6_5, c9_6_6, c9_6_7, lt9_6, y9_6, -⟩ := hO.k8 6 rfl
      obtain ⟨c9_7_0, c9_7_1, lt9_7, y9_7, -⟩ := hO.k2 7 rfl
      obtain ⟨c9_8_0, c9_8_1, lt9_8, y9_8, -⟩ := hO.k2 8 rfl
      obtain ⟨c9_9_0, c9_9_1, lt9_9, y9_9, -⟩ := hO.k2 9 rfl
      have HO := Lib.hid hO
      clear hO
      go_wp2_with (first | (with_reducible refine Own.stay (fn := Tryd.f35) ?_) | (first | (go_at_call 34; go_in)))
      try with_reducible refine Own.Stay.mk ?_
      have hO := HO.out
      clear HO c9_0_0 c9_0_1 lt9_0 y9_0 c9_1_0 c9_1_1 c9_1_2 c9_1_3 c9_1_4 lt9_1 y9_1 c9_5_0 c9_5_1 lt9_5 y9_5 c9_6_0 c9_6_1 c9_6_2 c9_6_3 c9_6_4 c9_6_5 c9_6_6 c9_6_7 lt9_6 y9_6 c9_7_0 c9_7_1 lt9_7 y9_7 c9_8_0 c9_8_1 lt9_8 y9_8 c9_9_0 c9_9_1 lt9_9 y9_9
      have hN : Own w0 u [row (nd15) 44 #[.iface 52 (.pointer (some ⟨nd14, 0, none⟩)), .int .i32 (2 * (j : Int)), .string ⟨#[95]⟩, .int .i32 (2 * (j : Int)), .int .u8 0, .bool false, .bool false, .bool false], row (B1_1) 30 #[.nilIface, .int .i32 0], row (B1) 30 #[.iface 62 (.pointer (some ⟨ea, 0, none⟩)), .int .i32 loc], row (pb) 206 PC, ((mp, .map #[⟨.string ⟨#[95, 95, 115, 117, 112, 101, 114, 87, 114, 97, 112, 112, 101, 114]⟩, .agg #[.int .i32 0, .int .u32 0, .int .u32 2], 0⟩, ⟨.string ⟨#[95, 95, 115, 117, 112, 101, 114, 71, 101, 116]⟩, .agg #[.int .i32 0, .int .u32 0, .int .u32 3], 1⟩, ⟨.string ⟨#[95, 95, 112, 114, 105, 118, 97, 116, 101, 87, 114, 97, 112, 112, 101, 114]⟩, .agg #[.int .i32 0, .int .u32 0, .int .u32 4], 2⟩] 3) : Rw), row (cr) 68 #[.int .u32 0, .int .u32 1], row (ea) 65 #[.slice (some ⟨it, 0, none⟩) n n, .int .i32 0, .int .i32 0, .bool false, .bool false], row (it) 30 (itR (vT1 D (j + 1)) (vB1 D (updN nw2 j nd15) (j + 1)) n 0)] (NodT Y D nw2 j n) := (hO.sub [6, 8, 9, 3, 4, 5, 1, 2] (by decide)).conv (by
        rw [← itR_set hlt v1_other (v1_hot (nw := nw2) (a := nd15) (by rw [HKJ.out]; decide)).1 (v1_hot (nw := nw2) (a := nd15) (by rw [HKJ.out]; decide)).2]
        rfl)
      have hP := NodT.pass nd15 (show ¬ isT D j from by unfold isT; rw [HKJ.out]; decide) hN
      obtain ⟨hM, hs9⟩ := NodT.addS hP HSY.out
      go_roundg gq
      case measure => omega
      case rel => exact ⟨j + 1, true, (updN nw2 j nd15), _, by omega, rfl, by first | rfl | simp, fun b o h => Or.inl (HXY.out b o h), fun i hi h2 h4 => by
        by_cases e : i = j
        · subst e
          rw [show (updN nw2 i nd15) i = nd15 from if_pos rfl]
          exact ⟨52, nd14, _, _, _, (fun _ => by decide), addX_r⟩
        · rw [show (updN nw2 j nd15) i = nw2 i from if_neg e]
          exact (HDT.out i (by omega) h2 h4).mono addX_l, hs9, hM⟩
    · skip
      have hy := HXY.out _ _ hx
      clear hx
      have hv0 : vT1 D j j = 40 := by rw [hvt, hkj]; rfl
      have hc0 : (itR (vT1 D j) (vB1 D nw2 j) n 0)[j * 2]? = some (.iface 40 (.pointer (some ⟨(D.nd j), 0, none⟩))) := by
        have h9 := itR_at0 (t := vT1 D j) (b := vB1 D nw2 j) (g := 0) hlt
        rwa [hv0, hvb] at h9
      have hc1 : (itR (vT1 D j) (vB1 D nw2 j) n 0)[j * 2 + 1]? = some (.int .i32 (2 * (j : Int))) := itR_at1 hlt
      have HV := Lib.hid (And.intro hvt (And.intro hvb hv0))
      clear hvt hvb hv0
      have HY := Lib.hid hy
      clear hy
      have HKJ := Lib.hid hkj
      clear hkj
      obtain ⟨ix9, hix9, hax9, hjx9⟩ := hO.ix
      have ix9_0 : ix9 B1_1 = 0 := hjx9 0 _ _ rfl
      have ix9_1 : ix9 B1 = 1 := hjx9 1 _ _ rfl
      have ix9_2 : ix9 pb = 2 := hjx9 2 _ _ rfl
      have ix9_3 : ix9 mp = 3 := hjx9 3 _ _ rfl
      have ix9_4 : ix9 cr = 4 := hjx9 4 _ _ rfl
      have ix9_5 : ix9 ea = 5 := hjx9 5 _ _ rfl
      have ix9_6 : ix9 it = 6 := hjx9 6 _ _ rfl
      clear hjx9
      obtain ⟨c9_0_0, c9_0_1, lt9_0, y9_0, pl9_0⟩ := hO.k2 0 rfl
      obtain ⟨c9_1_0, c9_1_1, lt9_1, y9_1, pl9_1⟩ := hO.k2 1 rfl
      have c9_2_32 : wr.cell? ⟨pb, 32, none⟩ = some (.bool false) := hO.cell 2 rfl (32) (hD.ts)
      have c9_2_95 : wr.cell? ⟨pb, 95, none⟩ = some (.bool r) := hO.cell 2 rfl (95) (hD.rep)
      have c9_2_96 : wr.cell? ⟨pb, 96, none⟩ = some (.bool s) := hO.cell 2 rfl (96) (hD.stat)
      have c9_2_97 : wr.cell? ⟨pb, 97, none⟩ = some (.pointer (some ⟨cr, 0, none⟩)) := hO.cell 2 rfl (97) (hD.cls)
      have c9_2_117 : wr.cell? ⟨pb, 117, none⟩ = some (.map (some mp)) := hO.cell 2 rfl (117) (hD.imp)
      have c9_2_338 : wr.cell? ⟨pb, 338, none⟩ = some (.bool true) := hO.cell 2 rfl (338) (hl)
      have c9_2_350 : wr.cell? ⟨pb, 350, none⟩ = some (.bool true) := hO.cell 2 rfl (350) (hD.dead)
      have lt9_2 : pb < wr.heap.size := hO.lt 2 rfl
      have y9_2 : ∀ o, wr.frozen? ⟨pb, o, none⟩ = false := hO.free 2 rfl
      obtain ⟨c9_4_0, c9_4_1, lt9_4, y9_4, -⟩ := hO.k2 4 rfl
      obtain ⟨c9_5_0, c9_5_1, c9_5_2, c9_5_3, c9_5_4, lt9_5, y9_5, -⟩ := hO.k5 5 rfl
      have pl9_6 : Base.plainAt wr (it) = true := hO.plain 6 rfl
      have c9_6_j_2 : wr.cell? ⟨it, j * 2, none⟩ = some (.iface 40 (.pointer (some ⟨(D.nd j), 0, none⟩))) := hO.cell 6 rfl (j * 2) (hc0)
      have c9_6_j_2_1 : wr.cell? ⟨it, j * 2 + 1, none⟩ = some (.int .i32 (2 * (j : Int))) := hO.cell 6 rfl (j * 2 + 1) (hc1)
      have lt9_6 : it < wr.heap.size := hO.lt 6 rfl
      have y9_6 : ∀ o, wr.frozen? ⟨it, o, none⟩ = false := hO.free 6 rfl
      have HO := Lib.hid hO
      clear hO
      go_wp2_with (first | (with_reducible refine Own.stay (fn := Tryd.f35) ?_) | (first | (go_at_call 34; go_in)))
      try with_reducible refine Own.Stay.mk ?_
      have hO := HO.out
      clear HO hix9 hax9 ix9_0 ix9_1 ix9_2 ix9_3 ix9_4 ix9_5 ix9_6 ix9 c9_0_0 c9_0_1 lt9_0 y9_0 pl9_0 c9_1_0 c9_1_1 lt9_1 y9_1 pl9_1 c9_2_32 c9_2_95 c9_2_96 c9_2_97 c9_2_117 c9_2_338 c9_2_350 lt9_2 y9_2 c9_4_0 c9_4_1 lt9_4 y9_4 c9_5_0 c9_5_1 c9_5_2 c9_5_3 c9_5_4 lt9_5 y9_5 pl9_6 c9_6_j_2 c9_6_j_2_1 lt9_6 y9_6
      generalize hW : World.alloc _ _ = W20
      have hN : Own w0 W20 [row (wr.heap.size) 30 #[.iface 40 (.pointer (some ⟨D.nd j, 0, none⟩)), .int .i32 (2 * (j : Int))], row (B1_1) 30 #[.nilIface, .int .i32 0], row (B1) 30 #[.iface 62 (.pointer (some ⟨ea, 0, none⟩)), .int .i32 loc], row (pb) 206 PC, ((mp, .map #[⟨.string ⟨#[95, 95, 115, 117, 112, 101, 114, 87, 114, 97, 112, 112, 101, 114]⟩, .agg #[.int .i32 0, .int .u32 0, .int .u32 2], 0⟩, ⟨.string ⟨#[95, 95, 115, 117, 112, 101, 114, 71, 101, 116]⟩, .agg #[.int .i32 0, .int .u32 0, .int .u32 3], 1⟩, ⟨.string ⟨#[95, 95, 112, 114, 105, 118, 97, 116, 101, 87, 114, 97, 112, 112, 101, 114]⟩, .agg #[.int .i32 0, .int .u32 0, .int .u32 4], 2⟩] 3) : Rw), row (cr) 68 #[.int .u32 0, .int .u32 1], row (ea) 65 #[.slice (some ⟨it, 0, none⟩) n n, .int .i32 0, .int .i32 0, .bool false, .bool false], row (it) 30 (itR (vT1 D j) (vB1 D nw2 j) n 0)] (NodT Y D nw2 j n) := by
        rw [← hW]
        exact (hO).alloc' _ (wr.heap.size) (by simp)
      clear hW hO
      generalize wr.heap.size = B19 at hN ⊢
      have hO := hN
      clear hN
      have hL := hO.apart
      have hX := hO.apartX
      have HL := Lib.hid hL
      have HX := Lib.hid hX
      clear hL hX
      have hP9 := hO.pick [3] (by decide)
      have T9 := coldItem pb PC mp cr r s (2 * (j : Int)) true 40 (D.nd j) _ _ _ hP9 hD hl (Or.inl ⟨rfl, 220, kx, _, _, nm, (fun _ => by decide), Or.inl (Or.inl HY.out)⟩)
      refine Calls.mono T9 ?_
      clear hP9 T9
      rintro e uw21 ⟨rfl, hQ⟩
      have hN : Own w0 uw21 [row (pb) 206 PC, row (B19) 30 #[.iface 40 (.pointer (some ⟨D.nd j, 0, none⟩)), .int .i32 (2 * (j : Int))], row (B1_1) 30 #[.nilIface, .int .i32 0], row (B1) 30 #[.iface 62 (.pointer (some ⟨ea, 0, none⟩)), .int .i32 loc], ((mp, .map #[⟨.string ⟨#[95, 95, 115, 117, 112, 101, 114, 87, 114, 97, 112, 112, 101, 114]⟩, .agg #[.int .i32 0, .int .u32 0, .int .u32 2], 0⟩, ⟨.string ⟨#[95, 95, 115, 117, 112, 101, 114, 71, 101, 116]⟩, .agg #[.int .i32 0, .int .u32 0, .int .u32 3], 1⟩, ⟨.string ⟨#[95, 95, 112, 114, 105, 118, 97, 116, 101, 87, 114, 97, 112, 112, 101, 114]⟩, .agg #[.int .i32 0, .int .u32 0, .int .u32 4], 2⟩] 3) : Rw), row (cr) 68 #[.int .u32 0, .int .u32 1], row (ea) 65 #[.slice (some ⟨it, 0, none⟩) n n, .int .i32 0, .int .i32 0, .bool false, .bool false], row (it) 30 (itR (vT1 D j) (vB1 D nw2 j) n 0)] (NodT Y D nw2 j n) := hQ.back HL.out HX.out [0, 1, 2, 4, 5, 6, 7] (by decide) (by decide)
      clear hQ HL HX hO
      have hO := hN
      clear hN
      obtain ⟨c9_1_0, c9_1_1, lt9_1, y9_1, -⟩ := hO.k2 1 rfl
      obtain ⟨c9_2_0, c9_2_1, lt9_2, y9_2, -⟩ := hO.k2 2 rfl
      obtain ⟨c9_3_0, c9_3_1, lt9_3, y9_3, -⟩ := hO.k2 3 rfl
      obtain ⟨c9_5_0, c9_5_1, lt9_5, y9_5, -⟩ := hO.k2 5 rfl
      obtain ⟨c9_6_0, c9_6_1, c9_6_2, c9_6_3, c9_6_4, lt9_6, y9_6, -⟩ := hO.k5 6 rfl
      have HO := Lib.hid hO
      clear hO
      go_wp2_with (first | (with_reducible refine Own.stay (fn := Tryd.f35) ?_) | (first | (go_at_call 34; go_in)))
      try with_reducible refine Own.Stay.mk ?_
      have hO := HO.out
      clear HO c9_1_0 c9_1_1 lt9_1 y9_1 c9_2_0 c9_2_1 lt9_2 y9_2 c9_3_0 c9_3_1 lt9_3 y9_3 c9_5_0 c9_5_1 lt9_5 y9_5 c9_6_0 c9_6_1 c9_6_2 c9_6_3 c9_6_4 lt9_6 y9_6
      generalize hW : World.alloc _ _ = W23
      have hN : Own w0 W23 [row (uw21.heap.size) 30 #[.iface 40 (.pointer (some ⟨D.nd j, 0, none⟩)), .int .i32 (2 * (j : Int))], row (pb) 206 PC, row (B19) 30 #[.iface 40 (.pointer (some ⟨D.nd j, 0, none⟩)), .int .i32 (2 * (j : Int))], row (B1_1) 30 #[.nilIface, .int .i32 0], row (B1) 30 #[.iface 62 (.pointer (some ⟨ea, 0, none⟩)), .int .i32 loc], ((mp, .map #[⟨.string ⟨#[95, 95, 115, 117, 112, 101, 114, 87, 114, 97, 112, 112, 101, 114]⟩, .agg #[.int .i32 0, .int .u32 0, .int .u32 2], 0⟩, ⟨.string ⟨#[95, 95, 115, 117, 112, 101, 114, 71, 101, 116]⟩, .agg #[.int .i32 0, .int .u32 0, .int .u32 3], 1⟩, ⟨.string ⟨#[95, 95, 112, 114, 105, 118, 97, 116, 101, 87, 114, 97, 112, 112, 101, 114]⟩, .agg #[.int .i32 0, .int .u32 0, .int .u32 4], 2⟩] 3) : Rw), row (cr) 68 #[.int .u32 0, .int .u32 1], row (ea) 65 #[.slice (some ⟨it, 0, none⟩) n n, .int .i32 0, .int .i32 0, .bool false, .bool false], row (it) 30 (itR (vT1 D j) (vB1 D nw2 j) n 0)] (NodT Y D nw2 j n) := by
        rw [← hW]
        exact (hO).alloc' _ (uw21.heap.size) (by simp)
      clear hW hO
      generalize uw21.heap.size = B22 at hN ⊢
      have hO := hN
      clear hN
      have hN : Own w0 W23 [row (B1_1) 30 #[.nilIface, .int .i32 0], row (B1) 30 #[.iface 62 (.pointer (some ⟨ea, 0, none⟩)), .int .i32 loc], row (pb) 206 PC, ((mp, .map #[⟨.string ⟨#[95, 95, 115, 117, 112, 101, 114, 87, 114, 97, 112, 112, 101, 114]⟩, .agg #[.int .i32 0, .int .u32 0, .int .u32 2], 0⟩, ⟨.string ⟨#[95, 95, 115, 117, 112, 101, 114, 71, 101, 116]⟩, .agg #[.int .i32 0, .int .u32 0, .int .u32 3], 1⟩, ⟨.string ⟨#[95, 95, 112, 114, 105, 118, 97, 116, 101, 87, 114, 97, 112, 112, 101, 114]⟩, .agg #[.int .i32 0, .int .u32 0, .int .u32 4], 2⟩] 3) : Rw), row (cr) 68 #[.int .u32 0, .int .u32 1], row (ea) 65 #[.slice (some ⟨it, 0, none⟩) n n, .int .i32 0, .int .i32 0, .bool false, .bool false], row (it) 30 (itR (vT1 D (j + 1)) (vB1 D (updN nw2 j 0) (j + 1)) n 0)] (NodT Y D nw2 j n) := (hO.sub [3, 4, 1, 5, 6, 7, 8] (by decide)).conv (by
        rw [itR_pass (by rw [HKJ.out]; decide)]
        rfl)
      have hP := NodT.pass 0 (show ¬ isT D j from by unfold isT; rw [HKJ.out]; decide) hN
      go_roundg gq
      case measure => omega
      case rel => exact ⟨j + 1, b9, (updN nw2 j 0), Y, by omega, rfl, by first | rfl | simp, HXY.out, fun i hi h2 h4 => by
        by_cases e : i = j
        · subst e
          exact absurd HKJ.out h2
        · rw [show (updN nw2 j 0) i = nw2 i from if_neg e]
          exact HDT.out i (by omega) h2 h4, HSY.out, hP⟩
    · skip
      have hy := HXY.out _ _ hx
      clear hx
      have hv0 : vT1 D j j = 227 := by rw [hvt, hkj]; rfl
      have hc0 : (itR (vT1 D j) (vB1 D nw2 j) n 0)[j * 2]? = some (.iface 227 (.pointer (some ⟨(D.nd j), 0, none⟩))) := by
        have h9 := itR_at0 (t := vT1 D j) (b := vB1 D nw2 j) (g := 0) hlt
        rwa [hv0, hvb] at h9
      have hc1 : (itR (vT1 D j) (vB1 D nw2 j) n 0)[j * 2 + 1]? = some (.int .i32 (2 * (j : Int))) := itR_at1 hlt
      have HV := Lib.hid (And.intro hvt (And.intro hvb hv0))
      clear hvt hvb hv0
      have htj : isT D j := Or.inl hkj
      have htn : tn D j = (D.nd j) := if_pos hkj
      have hto : tnO D nw2 false j = .cells #[.iface 40 (.pointer (some ⟨(D.inn j), 0, none⟩)), .int .i32 (2 * (j : Int))] 234 (0, 0) := if_pos hkj
      have hN : Own w0 wr [row ((D.nd j)) 234 #[.iface 40 (.pointer (some ⟨(D.inn j), 0, none⟩)), .int .i32 (2 * (j : Int))], row (B1_1) 30 #[.nilIface, .int .i32 0], row (B1) 30 #[.iface 62 (.pointer (some ⟨ea, 0, none⟩)), .int .i32 loc], row (pb) 206 PC, ((mp, .map #[⟨.string ⟨#[95, 95, 115, 117, 112, 101, 114, 87, 114, 97, 112, 112, 101, 114]⟩, .agg #[.int .i32 0, .int .u32 0, .int .u32 2], 0⟩, ⟨.string ⟨#[95, 95, 115, 117, 112, 101, 114, 71, 101, 116]⟩, .agg #[.int .i32 0, .int .u32 0, .int .u32 3], 1⟩, ⟨.string ⟨#[95, 95, 112, 114, 105, 118, 97, 116, 101, 87, 114, 97, 112, 112, 101, 114]⟩, .agg #[.int .i32 0, .int .u32 0, .int .u32 4], 2⟩] 3) : Rw), row (cr) 68 #[.int .u32 0, .int .u32 1], row (ea) 65 #[.slice (some ⟨it, 0, none⟩) n n, .int .i32 0, .int .i32 0, .bool false, .bool false], row (it) 30 (itR (vT1 D j) (vB1 D nw2 j) n 0)] (NodTH Y D nw2 j n) := by
        have h9 := NodT.take hO hlt htj
        rw [htn, hto] at h9
        exact h9
      have hne := HSY.out _ _ hy j hlt htj
      clear hO
      have hO := hN
      clear hN
      have HTN := Lib.hid htn
      have HTO := Lib.hid hto
      have HNE := Lib.hid hne
      clear htn hto hne
      have HY := Lib.hid hy
      clear hy
      have HKJ := Lib.hid hkj
      clear hkj
      obtain ⟨ix9, hix9, hax9, hjx9⟩ := hO.ix
      have ix9_0 : ix9 (D.nd j) = 0 := hjx9 0 _ _ rfl
      have ix9_1 : ix9 B1_1 = 1 := hjx9 1 _ _ rfl
      have ix9_2 : ix9 B1 = 2 := hjx9 2 _ _ rfl
      have ix9_3 : ix9 pb = 3 := hjx9 3 _ _ rfl
      have ix9_4 : ix9 mp = 4 := hjx9 4 _ _ rfl
      have ix9_5 : ix9 cr = 5 := hjx9 5 _ _ rfl
      have ix9_6 : ix9 ea = 6 := hjx9 6 _ _ rfl
      have ix9_7 : ix9 it = 7 := hjx9 7 _ _ rfl
      clear hjx9
      obtain ⟨c9_0_0, c9_0_1, lt9_0, y9_0, -⟩ := hO.k2 0 rfl
      obtain ⟨c9_1_0, c9_1_1, lt9_1, y9_1, pl9_1⟩ := hO.k2 1 rfl
      obtain ⟨c9_2_0, c9_2_1, lt9_2, y9_2, pl9_2⟩ := hO.k2 2 rfl
      have c9_3_32 : wr.cell? ⟨pb, 32, none⟩ = some (.bool false) := hO.cell 3 rfl (32) (hD.ts)
      have c9_3_95 : wr.cell? ⟨pb, 95, none⟩ = some (.bool r) := hO.cell 3 rfl (95) (hD.rep)
      have c9_3_96 : wr.cell? ⟨pb, 96, none⟩ = some (.bool s) := hO.cell 3 rfl (96) (hD.stat)
      have c9_3_97 : wr.cell? ⟨pb, 97, none⟩ = some (.pointer (some ⟨cr, 0, none⟩)) := hO.cell 3 rfl (97) (hD.cls)
      have c9_3_117 : wr.cell? ⟨pb, 117, none⟩ = some (.map (some mp)) := hO.cell 3 rfl (117) (hD.imp)
      have c9_3_338 : wr.cell? ⟨pb, 338, none⟩ = some (.bool true) := hO.cell 3 rfl (338) (hl)
      have c9_3_350 : wr.cell? ⟨pb, 350, none⟩ = some (.bool true) := hO.cell 3 rfl (350) (hD.dead)
      have lt9_3 : pb < wr.heap.size := hO.lt 3 rfl
      have y9_3 : ∀ o, wr.frozen? ⟨pb, o, none⟩ = false := hO.free 3 rfl
      obtain ⟨c9_5_0, c9_5_1, lt9_5, y9_5, -⟩ := hO.k2 5 rfl
      obtain ⟨c9_6_0, c9_6_1, c9_6_2, c9_6_3, c9_6_4, lt9_6, y9_6, -⟩ := hO.k5 6 rfl
      have pl9_7 : Base.plainAt wr (it) = true := hO.plain 7 rfl
      have c9_7_j_2 : wr.cell? ⟨it, j * 2, none⟩ = some (.iface 227 (.pointer (some ⟨(D.nd j), 0, none⟩))) := hO.cell 7 rfl (j * 2) (hc0)
      have c9_7_j_2_1 : wr.cell? ⟨it, j * 2 + 1, none⟩ = some (.int .i32 (2 * (j : Int))) := hO.cell 7 rfl (j * 2 + 1) (hc1)
      have lt9_7 : it < wr.heap.size := hO.lt 7 rfl
      have y9_7 : ∀ o, wr.frozen? ⟨it, o, none⟩ = false := hO.free 7 rfl
      have HO := Lib.hid hO
      clear hO
      go_wp2_with (first | (with_reducible refine Own.stay (fn := Tryd.f35) ?_) | (first | (go_at_call 34; go_in)))
      try with_reducible refine Own.Stay.mk ?_
      have hO := HO.out
      clear HO hix9 hax9 ix9_0 ix9_1 ix9_2 ix9_3 ix9_4 ix9_5 ix9_6 ix9_7 ix9 c9_0_0 c9_0_1 lt9_0 y9_0 c9_1_0 c9_1_1 lt9_1 y9_1 pl9_1 c9_2_0 c9_2_1 lt9_2 y9_2 pl9_2 c9_3_32 c9_3_95 c9_3_96 c9_3_97 c9_3_117 c9_3_338 c9_3_350 lt9_3 y9_3 c9_5_0 c9_5_1 lt9_5 y9_5 c9_6_0 c9_6_1 c9_6_2 c9_6_3 c9_6_4 lt9_6 y9_6 pl9_7 c9_7_j_2 c9_7_j_2_1 lt9_7 y9_7
      generalize hW : World.alloc _ _ = W25
      have hN : Own w0 W25 [row (wr.heap.size) 30 #[.iface 227 (.pointer (some ⟨D.nd j, 0, none⟩)), .int .i32 (2 * (j : Int))], row ((D.nd j)) 234 #[.iface 40 (.pointer (some ⟨(D.inn j), 0, none⟩)), .int .i32 (2 * (j : Int))], row (B1_1) 30 #[.nilIface, .int .i32 0], row (B1) 30 #[.iface 62 (.pointer (some ⟨ea, 0, none⟩)), .int .i32 loc], row (pb) 206 PC, ((mp, .map #[⟨.string ⟨#[95, 95, 115, 117, 112, 101, 114, 87, 114, 97, 112, 112, 101, 114]⟩, .agg #[.int .i32 0, .int .u32 0, .int .u32 2], 0⟩, ⟨.string ⟨#[95, 95, 115, 117, 112, 101, 114, 71, 101, 116]⟩, .agg #[.int .i32 0, .int .u32 0, .int .u32 3], 1⟩, ⟨.string ⟨#[95, 95, 112, 114, 105, 118, 97, 116, 101, 87, 114, 97, 112, 112, 101, 114]⟩, .agg #[.int .i32 0, .int .u32 0, .int .u32 4], 2⟩] 3) : Rw), row (cr) 68 #[.int .u32 0, .int .u32 1], row (ea) 65 #[.slice (some ⟨it, 0, none⟩) n n, .int .i32 0, .int .i32 0, .bool false, .bool false], row (it) 30 (itR (vT1 D j) (vB1 D nw2 j) n 0)] (NodTH Y D nw2 j n) := by
        rw [← hW]
        exact (hO).alloc' _ (wr.heap.size) (by simp)
      clear hW hO
      generalize wr.heap.size = B24 at hN ⊢
      have hO := hN
      clear hN
      have hL := hO.apart
      have hX := hO.apartX
      have HL := Lib.hid hL
      have HX := Lib.hid hX
      clear hL hX
      have hP9 := hO.pick [4, 5, 6, 1] (by decide)
      have T9 := hots pb PC mp cr r s (2 * (j : Int)) (D.inn j) kx (2 * (j : Int)) (2 * (j : Int) + 1) nm (D.nd j) (2 * (j : Int)) _ _ _ hP9 hD hl hlen (Or.inl ⟨Or.inl HY.out, HNE.out⟩)
      refine Calls.mono T9 ?_
      clear hP9 T9
      rintro e uw26 ⟨nd27, nd28, rfl, hQ⟩
      have hN : Own w0 uw26 [row (pb) 206 PC, ((mp, .map #[⟨.string ⟨#[95, 95, 115, 117, 112, 101, 114, 87, 114, 97, 112, 112, 101, 114]⟩, .agg #[.int .i32 0, .int .u32 0, .int .u32 2], 0⟩, ⟨.string ⟨#[95, 95, 115, 117, 112, 101, 114, 71, 101, 116]⟩, .agg #[.int .i32 0, .int .u32 0, .int .u32 3], 1⟩, ⟨.string ⟨#[95, 95, 112, 114, 105, 118, 97, 116, 101, 87, 114, 97, 112, 112, 101, 114]⟩, .agg #[.int .i32 0, .int .u32 0, .int .u32 4], 2⟩] 3) : Rw), row (cr) 68 #[.int .u32 0, .int .u32 1], row (D.nd j) 234 #[.iface 40 (.pointer (some ⟨nd28, 0, none⟩)), .int .i32 (2 * (j : Int))], row (nd28) 44 #[.iface 52 (.pointer (some ⟨nd27, 0, none⟩)), .int .i32 (2 * (j : Int)), .string ⟨#[95]⟩, .int .i32 (2 * (j : Int)), .int .u8 0, .bool false, .bool false, .bool false], row (B24) 30 #[.iface 227 (.pointer (some ⟨D.nd j, 0, none⟩)), .int .i32 (2 * (j : Int))], row (B1_1) 30 #[.nilIface, .int .i32 0], row (B1) 30 #[.iface 62 (.pointer (some ⟨ea, 0, none⟩)), .int .i32 loc], row (ea) 65 #[.slice (some ⟨it, 0, none⟩) n n, .int .i32 0, .int .i32 0, .bool false, .bool false], row (it) 30 (itR (vT1 D j) (vB1 D nw2 j) n 0)] (NodTH Y D nw2 j n) := hQ.back HL.out HX.out [0, 2, 3, 7, 8] (by decide) (by decide)
      clear hQ HL HX hO
      have hO := hN
      clear hN
      obtain ⟨c9_2_0, c9_2_1, lt9_2, y9_2, -⟩ := hO.k2 2 rfl
      obtain ⟨c9_3_0, c9_3_1, lt9_3, y9_3, -⟩ := hO.k2 3 rfl
      obtain ⟨c9_4_0, c9_4_1, c9_4_2, c9_4_3, c9_4_4, c9_4_5, c9_4_6, c9_4_7, lt9_4, y9_4, -⟩ := hO.k8 4 rfl
      obtain ⟨c9_5_0, c9_5_1, lt9_5, y9_5, -⟩ := hO.k2 5 rfl
      obtain ⟨c9_6_0, c9_6_1, lt9_6, y9_6, -⟩ := hO.k2 6 rfl
      obtain ⟨c9_7_0, c9_7_1, lt9_7, y9_7, -⟩ := hO.k2 7 rfl
      obtain ⟨c9_8_0, c9_8_1, c9_8_2, c9_8_3, c9_8_4, lt9_8, y9_8, -⟩ := hO.k5 8 rfl
      have HO := Lib.hid hO
      clear hO
      go_wp2_with (first | (with_reducible refine Own.stay (fn := Tryd.f35) ?_) | (first | (go_at_call 34; go_in)))
      try with_reducible refine Own.Stay.mk ?_
      have hO := HO.out
      clear HO c9_2_0 c9_2_1 lt9_2 y9_2 c9_3_0 c9_3_1 lt9_3 y9_3 c9_4_0 c9_4_1 c9_4_2 c9_4_3 c9_4_4 c9_4_5 c9_4_6 c9_4_7 lt9_4 y9_4 c9_5_0 c9_5_1 lt9_5 y9_5 c9_6_0 c9_6_1 lt9_6 y9_6 c9_7_0 c9_7_1 lt9_7 y9_7 c9_8_0 c9_8_1 c9_8_2 c9_8_3 c9_8_4 lt9_8 y9_8
      generalize hW : World.alloc _ _ = W30
      have hN : Own w0 W30 [row (uw26.heap.size) 30 #[.iface 227 (.pointer (some ⟨D.nd j, 0, none⟩)), .int .i32 (2 * (j : Int))], row (pb) 206 PC, ((mp, .map #[⟨.string ⟨#[95, 95, 115, 117, 112, 101, 114, 87, 114, 97, 112, 112, 101, 114]⟩, .agg #[.int .i32 0, .int .u32 0, .int .u32 2], 0⟩, ⟨.string ⟨#[95, 95, 115, 117, 112, 101, 114, 71, 101, 116]⟩, .agg #[.int .i32 0, .int .u32 0, .int .u32 3], 1⟩, ⟨.string ⟨#[95, 95, 112, 114, 105, 118, 97, 116, 101, 87, 114, 97, 112, 112, 101, 114]⟩, .agg #[.int .i32 0, .int .u32 0, .int .u32 4], 2⟩] 3) : Rw), row (cr) 68 #[.int .u32 0, .int .u32 1], row (D.nd j) 234 #[.iface 40 (.pointer (some ⟨nd28, 0, none⟩)), .int .i32 (2 * (j : Int))], row (nd28) 44 #[.iface 52 (.pointer (some ⟨nd27, 0, none⟩)), .int .i32 (2 * (j : Int)), .string ⟨#[95]⟩, .int .i32 (2 * (j : Int)), .int .u8 0, .bool false, .bool false, .bool false], row (B24) 30 #[.iface 227 (.pointer (some ⟨D.nd j, 0, none⟩)), .int .i32 (2 * (j : Int))], row (B1_1) 30 #[.nilIface, .int .i32 0], row (B1) 30 #[.iface 62 (.pointer (some ⟨ea, 0, none⟩)), .int .i32 loc], row (ea) 65 #[.slice (some ⟨it, 0, none⟩) n n, .int .i32 0, .int .i32 0, .bool false, .bool false], row (it) 30 (itR (vT1 D j) (vB1 D nw2 j) n 0)] (NodTH Y D nw2 j n) := by
        rw [← hW]
        exact (hO).alloc' _ (uw26.heap.size) (by simp)
      clear hW hO
      generalize uw26.heap.size = B29 at hN ⊢
      have hO := hN
      clear hN
      have hL := hO.apart
      have hX := hO.apartX
      have HL := Lib.hid hL
      have HX := Lib.hid hX
      clear hL hX
      have hP9 := hO.pick [0, 9, 10] (by decide)
      generalize hX9_31 : Own.Rest _ _ (NodTH Y D nw2 j n) = X9_31 at hP9
      replace hP9 : Own w0 W30 [row (B29) 30 #[.iface 227 (.pointer (some ⟨D.nd j, 0, none⟩)), .int .i32 (2 * (j : Int))], row (ea) 65 #[.slice (some ⟨it, 0, none⟩) n n, .int .i32 0, .int .i32 0, .bool false, .bool false], row (it) 30 (itR (vT1 D j) (vB1 D nw2 j) n 0)] X9_31 := hP9
      clear hO
      have hO := hP9
      clear hP9
      have st9 := rAH3_0_st ea it n D j nw2 B29
      let R9 := rAH3_0R ea it n D j nw2 B29
      refine wp_region_own (e := rAH3_0E ea it n D j nw2 B29) (anc := rAH3_0Anc) (G := (fun L9 α u9 => OwnF w0 u9 (act rAH3_0Cnt 3 L9) (rAH3_0R ea it n D j nw2 B29 L9 α) X9_31)) (by kernel_rfl) (by kernel_rfl) (by kernel_rfl) (by kernel_rfl) (rAH3_0_he ea it n D j nw2 B29) ?_ (RunsAll.all ?_) ?_
      · have hp : ∀ i, act rAH3_0Cnt 3 (fun _ => false) i → i ∈ [999, 1999, 2999] := by
          intro i hi
          have h9 : i % 1000 = 999 := by
            by_cases h : i % 1000 = 999
            · exact h
            · exact absurd (act_lt hi h) (by simp)
          unfold act at hi
          rw [if_pos h9] at hi
          simp only [List.mem_cons, List.not_mem_nil, or_false]
          omega
        refine hO.drew.family (fun i hi => ?_) (fun i j hi hj hij => ?_)
        · have := hp i hi
          simp only [List.mem_cons, List.not_mem_nil, or_false] at this
          rcases this with rfl | rfl | rfl <;> rfl
        · have h1 := hp i hi
          have h2 := hp j hj
          simp only [List.mem_cons, List.not_mem_nil, or_false] at h1 h2
          omega
      · refine ⟨?_, ?_, ?_, ?_, ?_, ?_, ?_, ?_, trivial⟩
        · intro L9 α a9 u9 K9 hL hcl hA hG hS h0 h1 hK
          replace hL : L9 0 = false := hL
          have q17 : a9.tmps[17]? = some (.pointer (some ⟨ea, 0, none⟩)) := (h0 17 (by kernel_rfl)).trans rfl
          have s17 := Rega.eval_of q17
          go_simp
          exact hK _ α _ (fun _ _ => rfl) rfl (step_same (st9) hL hcl rfl rfl hG)
        · intro L9 α a9 u9 K9 hL hcl hA hG hS h0 h1 hK
          replace hL : L9 1 = false := hL
          have q206 : a9.tmps[206]? = some (.pointer (some ⟨ea, 0, none⟩)) := hS 0 206 (by decide) rfl (by show 206 < 250; decide)
          have s206 := Rega.eval_of q206
          go_simp
          exact hK _ α _ (fun _ _ => rfl) rfl (step_same (st9) hL hcl rfl rfl hG)
        · intro L9 α a9 u9 K9 hL hcl hA hG hS h0 h1 hK
          replace hL : L9 2 = false := hL
          have q207 : a9.tmps[207]? = some (.pointer (some ⟨ea, 0, none⟩)) := hS 1 207 (by decide) rfl (by show 207 < 250; decide)
          have s207 := Rega.eval_of q207
          go_simp
          exact hK _ α _ (fun _ _ => rfl) rfl (step_same (st9) hL hcl rfl rfl hG)
        · intro L9 α a9 u9 K9 hL hcl hA hG hS h0 h1 hK
          replace hL : L9 3 = false := hL
          have q208 : a9.tmps[208]? = some (.pointer (some ⟨ea, 0, none⟩)) := hS 2 208 (by decide) rfl (by show 208 < 250; decide)
          have s208 := Rega.eval_of q208
          have e0 : R9 L9 α 1999 = row (ea) 65 #[.slice (some ⟨it, 0, none⟩) n n, .int .i32 0, .int .i32 0, .bool false, .bool false] := rfl
          have hr := hG.rowAt 1999 (act_base 1999 rfl) e0
          have c0 : u9.cell? ⟨ea, 0, none⟩ = some (.slice (some ⟨it, 0, none⟩) n n) := hr.cell rfl
          clear hr e0
          go_simp
          exact hK _ α _ (fun _ _ => rfl) rfl (step_same (st9) hL hcl rfl rfl hG)
        · intro L9 α a9 u9 K9 hL hcl hA hG hS h0 h1 hK
          replace hL : L9 4 = false := hL
          have q18 : a9.tmps[18]? = some (.int .i64 (j : Int)) := (h0 18 (by kernel_rfl)).trans rfl
          have s18 := Rega.eval_of q18
          go_simp
          exact hK _ α _ (fun _ _ => rfl) rfl (step_same (st9) hL hcl rfl rfl hG)
        · intro L9 α a9 u9 K9 hL hcl hA hG hS h0 h1 hK
          replace hL : L9 5 = false := hL
          have q20 : a9.tmps[20]? = some (.pointer (some ⟨B29, 0, none⟩)) := (h0 20 (by kernel_rfl)).trans rfl
          have s20 := Rega.eval_of q20
          have e0 : R9 L9 α 999 = row (B29) 30 #[.iface 227 (.pointer (some ⟨D.nd j, 0, none⟩)), .int .i32 (2 * (j : Int))] := rfl
          have hr := hG.rowAt 999 (act_base 999 rfl) e0
          have c0 : u9.cell? ⟨B29, 0, none⟩ = some (.iface 227 (.pointer (some ⟨D.nd j, 0, none⟩))) := hr.cell rfl
          have c1 : u9.cell? ⟨B29, 1, none⟩ = some (.int .i32 (2 * (j : Int))) := hr.cell rfl
          clear hr e0
          go_simp
          exact hK _ α _ (fun _ _ => rfl) rfl (step_same (st9) hL hcl rfl rfl hG)
        · intro L9 α a9 u9 K9 hL hcl hA hG hS h0 h1 hK
          replace hL : L9 6 = false := hL
          have q209 : a9.tmps[209]? = some (.slice (some ⟨it, 0, none⟩) n n) := hS 3 209 (by decide) rfl (by show 209 < 250; decide)
          have s209 := Rega.eval_of q209
          have q210 : a9.tmps[210]? = some (.int .i64 (j : Int)) := hS 4 210 (by decide) rfl (by show 210 < 250; decide)
          have s210 := Rega.eval_of q210
          go_simp
          exact hK _ α _ (fun _ _ => rfl) rfl (step_same (st9) hL hcl rfl rfl hG)
        · intro L9 α a9 u9 K9 hL hcl hA hG hS h0 h1 hK
          replace hL : L9 7 = false := hL
          have q212 : a9.tmps[212]? = some (.pointer (some ⟨it, j * 2, none⟩)) := hS 6 212 (by decide) rfl (by show 212 < 250; decide)
          have s212 := Rega.eval_of q212
          have q211 : a9.tmps[211]? = some (.agg #[.iface 227 (.pointer (some ⟨D.nd j, 0, none⟩)), .int .i32 (2 * (j : Int))]) := hS 5 211 (by decide) rfl (by show 211 < 250; decide)
          have s211 := Rega.eval_of q211
          have e0 : R9 L9 α 2999 = row (it) 30 (itR (vT1 D j) (vB1 D nw2 j) n 0) := by
            show rAH3_0T2999 ea it n D j nw2 B29 L9 α = _
            unfold rAH3_0T2999
            rw [if_neg (by rw [hL]; decide)]
          have hr := hG.rowAt 2999 (act_base 2999 rfl) e0
          have c0 : u9.cell? ⟨it, j * 2, none⟩ = some (.iface 227 (.pointer (some ⟨(D.nd j), 0, none⟩))) := hr.cell (hc0)
          have y0 : u9.frozen? ⟨it, j * 2, none⟩ = false := hr.free (j * 2)
          have c1 : u9.cell? ⟨it, j * 2 + 1, none⟩ = some (.int .i32 (2 * (j : Int))) := hr.cell (hc1)
          have y1 : u9.frozen? ⟨it, j * 2 + 1, none⟩ = false := hr.free (j * 2 + 1)
          clear hr
          have E0 := Lib.hid e0
          clear e0
          go_simp
          have e1 : R9 (Rega.ran L9 7) α 2999 = row (it) 30 (((itR (vT1 D j) (vB1 D nw2 j) n 0).setIfInBounds (j * 2) (.iface 227 (.pointer (some ⟨D.nd j, 0, none⟩)))).setIfInBounds (j * 2 + 1) (.int .i32 (2 * (j : Int)))) := by
            show rAH3_0T2999 ea it n D j nw2 B29 (Rega.ran L9 7) α = _
            unfold rAH3_0T2999
            rw [if_pos (show Rega.ran L9 7 7 = true from rfl)]
          exact hK _ α _ (fun _ _ => rfl) rfl (step_sets (st9) hL hcl rfl 2999 rfl (act_base 2999 rfl) E0.out (j * 2) [.iface 227 (.pointer (some ⟨D.nd j, 0, none⟩)), .int .i32 (2 * (j : Int))] (e1.trans rfl) hG)
      clear st9
      intro α u hG
      have e0 : R9 (fun k => decide (k < 8)) α 999 = row (B29) 30 #[.iface 227 (.pointer (some ⟨D.nd j, 0, none⟩)), .int .i32 (2 * (j : Int))] := rfl
      have e1 : R9 (fun k => decide (k < 8)) α 1999 = row (ea) 65 #[.slice (some ⟨it, 0, none⟩) n n, .int .i32 0, .int .i32 0, .bool false, .bool false] := rfl
      have e2 : R9 (fun k => decide (k < 8)) α 2999 = row (it) 30 (((itR (vT1 D j) (vB1 D nw2 j) n 0).setIfInBounds (j * 2) (.iface 227 (.pointer (some ⟨D.nd j, 0, none⟩)))).setIfInBounds (j * 2 + 1) (.int .i32 (2 * (j : Int)))) := by
        show rAH3_0T2999 ea it n D j nw2 B29 (fun k => decide (k < 8)) α = _
        unfold rAH3_0T2999
        rw [if_pos (by decide)]
      have hO : Own w0 u [row (B29) 30 #[.iface 227 (.pointer (some ⟨D.nd j, 0, none⟩)), .int .i32 (2 * (j : Int))], row (ea) 65 #[.slice (some ⟨it, 0, none⟩) n n, .int .i32 0, .int .i32 0, .bool false, .bool false], row (it) 30 (((itR (vT1 D j) (vB1 D nw2 j) n 0).setIfInBounds (j * 2) (.iface 227 (.pointer (some ⟨D.nd j, 0, none⟩)))).setIfInBounds (j * 2 + 1) (.int .i32 (2 * (j : Int))))] X9_31 := (hG.list [999, 1999, 2999] (by decide) (act_all (by decide))).conv (by
        show [R9 (fun k => decide (k < 8)) α 999, R9 (fun k => decide (k < 8)) α 1999, R9 (fun k => decide (k < 8)) α 2999] = _
        rw [e0, e1, e2])
      clear hG e0 e1 e2 R9
      generalize hfr : Rega.frameAt _ _ _ _ _ = fr
      have hdf : fr = ⟨#[.pointer (some ⟨pb, 0, none⟩), .agg #[.iface 62 (.pointer (some ⟨ea, 0, none⟩)), .int .i32 loc], undef, .pointer (some ⟨B1, 0, none⟩), .pointer (some ⟨B1_1, 0, none⟩), .bool false, .bool b9, undef, undef, undef, undef, undef, undef, undef, undef, undef, undef, .pointer (some ⟨ea, 0, none⟩), .int .i64 (j : Int), .pointer (some ⟨B24, 0, none⟩), .pointer (some ⟨B29, 0, none⟩), .bool true, undef, undef, undef, undef, undef, .pointer (some ⟨B1, 0, none⟩), .iface 62 (.pointer (some ⟨ea, 0, none⟩)), .tuple #[.pointer none, .bool false], .bool false, .pointer none, undef, undef, undef, undef, undef, undef, undef, undef, undef, undef, undef, undef, undef, undef, .tuple #[.pointer none, .bool false], .bool false, .pointer none, undef, undef, undef, undef, undef, undef, undef, undef, undef, undef, undef, undef, undef, undef, undef, undef, undef, undef, undef, undef, undef, undef, undef, undef, .tuple #[.pointer none, .bool false], .bool false, .pointer none, undef, undef, undef, undef, undef, undef, undef, undef, undef, undef, undef, undef, undef, undef, undef, undef, undef, undef, undef, undef, undef, undef, undef, undef, undef, undef, undef, undef, undef, undef, undef, undef, undef, undef, undef, undef, undef, undef, undef, undef, undef, undef, undef, undef, undef, undef, undef, undef, undef, undef, undef, undef, undef, undef, undef, undef, undef, undef, undef, undef, undef, undef, undef, undef, undef, undef, undef, undef, undef, undef, undef, undef, undef, undef, undef, undef, undef, undef, undef, undef, undef, undef, undef, undef, undef, undef, undef, undef, undef, undef, undef, undef, undef, undef, undef, undef, undef, undef, undef, undef, undef, undef, undef, undef, undef, undef, undef, undef, undef, undef, .tuple #[.pointer (some ⟨ea, 0, none⟩), .bool true], .bool true, .pointer (some ⟨ea, 0, none⟩), .pointer (some ⟨ea, 0, none⟩), .pointer (some ⟨ea, 0, none⟩), .pointer (some ⟨ea, 0, none⟩), .slice (some ⟨it, 0, none⟩) n n, .int .i64 (n : Int), .int .i64 (j : Int), .bool true, .int .i64 (j : Int), .pointer (some ⟨it, j * 2, none⟩), .agg #[.iface 227 (.pointer (some ⟨D.nd j, 0, none⟩)), .int .i32 (2 * (j : Int))], .tuple #[.agg #[.iface 227 (.pointer (some ⟨D.nd j, 0, none⟩)), .int .i32 (2 * (j : Int))], .bool true], .pointer (some ⟨pb, 0, none⟩), .agg #[.iface 227 (.pointer (some ⟨D.nd j, 0, none⟩)), .int .i32 (2 * (j : Int))], .tuple #[.agg #[.iface 227 (.pointer (some ⟨D.nd j, 0, none⟩)), .int .i32 (2 * (j : Int))], .bool true], .agg #[.iface 227 (.pointer (some ⟨D.nd j, 0, none⟩)), .int .i32 (2 * (j : Int))], .bool true, .bool true, .pointer (some ⟨ea, 0, none⟩), .pointer (some ⟨ea, 0, none⟩), .pointer (some ⟨ea, 0, none⟩), .slice (some ⟨it, 0, none⟩) n n, .int .i64 (j : Int), .agg #[.iface 227 (.pointer (some ⟨D.nd j, 0, none⟩)), .int .i32 (2 * (j : Int))], .pointer (some ⟨it, j * 2, none⟩), u213, undef, undef, undef, undef, undef, undef, undef, undef, undef, undef, undef, undef, undef, undef, undef, undef, undef, undef, undef, undef, undef, undef, undef, undef, undef, undef, undef, undef, undef, undef, undef, undef, undef, undef, undef, undef], []⟩ := by rw [← hfr]; kernel_rfl
      clear hfr
      subst hdf
      clear α
      subst hX9_31
      have hN : Own w0 u [row (B29) 30 #[.iface 227 (.pointer (some ⟨D.nd j, 0, none⟩)), .int .i32 (2 * (j : Int))], row (ea) 65 #[.slice (some ⟨it, 0, none⟩) n n, .int .i32 0, .int .i32 0, .bool false, .bool false], row (it) 30 (((itR (vT1 D j) (vB1 D nw2 j) n 0).setIfInBounds (j * 2) (.iface 227 (.pointer (some ⟨D.nd j, 0, none⟩)))).setIfInBounds (j * 2 + 1) (.int .i32 (2 * (j : Int)))), row (pb) 206 PC, ((mp, .map #[⟨.string ⟨#[95, 95, 115, 117, 112, 101, 114, 87, 114, 97, 112, 112, 101, 114]⟩, .agg #[.int .i32 0, .int .u32 0, .int .u32 2], 0⟩, ⟨.string ⟨#[95, 95, 115, 117, 112, 101, 114, 71, 101, 116]⟩, .agg #[.int .i32 0, .int .u32 0, .int .u32 3], 1⟩, ⟨.string ⟨#[95, 95, 112, 114, 105, 118, 97, 116, 101, 87, 114, 97, 112, 112, 101, 114]⟩, .agg #[.int .i32 0, .int .u32 0, .int .u32 4], 2⟩] 3) : Rw), row (cr) 68 #[.int .u32 0, .int .u32 1], row (D.nd j) 234 #[.iface 40 (.pointer (some ⟨nd28, 0, none⟩)), .int .i32 (2 * (j : Int))], row (nd28) 44 #[.iface 52 (.pointer (some ⟨nd27, 0, none⟩)), .int .i32 (2 * (j : Int)), .string ⟨#[95]⟩, .int .i32 (2 * (j : Int)), .int .u8 0, .bool false, .bool false, .bool false], row (B24) 30 #[.iface 227 (.pointer (some ⟨D.nd j, 0, none⟩)), .int .i32 (2 * (j : Int))], row (B1_1) 30 #[.nilIface, .int .i32 0], row (B1) 30 #[.iface 62 (.pointer (some ⟨ea, 0, none⟩)), .int .i32 loc]] (NodTH Y D nw2 j n) := hO.back HL.out HX.out [1, 2, 3, 4, 5, 6, 7, 8] (by decide) (by decide)
      clear hO HL HX
      have hO := hN
      clear hN
      obtain ⟨c9_0_0, c9_0_1, lt9_0, y9_0, -⟩ := hO.k2 0 rfl
      obtain ⟨c9_1_0, c9_1_1, c9_1_2, c9_1_3, c9_1_4, lt9_1, y9_1, -⟩ := hO.k5 1 rfl
      obtain ⟨c9_5_0, c9_5_1, lt9_5, y9_5, -⟩ := hO.k2 5 rfl
      obtain ⟨c9_6_0, c9_6_1, lt9_6, y9_6, -⟩ := hO.k2 6 rfl
      obtain ⟨c9_7_0, c9_7_1, c9_7_2, c9_7_3, c9_7_4, c9_7_5, c9_7_6, c9_7_7, lt9_7, y9_7, -⟩ := hO.k8 7 rfl
      obtain ⟨c9_8_0, c9_8_1, lt9_8, y9_8, -⟩ := hO.k2 8 rfl
      obtain ⟨c9_9_0, c9_9_1, lt9_9, y9_9, -⟩ := hO.k2 9 rfl
      obtain ⟨c9_10_0, c9_10_1, lt9_10, y9_10, -⟩ := hO.k2 10 rfl
      have HO := Lib.hid hO
      clear hO
      go_wp2_with (first | (with_reducible refine Own.stay (fn := Tryd.f35) ?_) | (first | (go_at_call 34; go_in)))
      try with_reducible refine Own.Stay.mk ?_
      have hO := HO.out
      clear HO c9_0_0 c9_0_1 lt9_0 y9_0 c9_1_0 c9_1_1 c9_1_2 c9_1_3 c9_1_4 lt9_1 y9_1 c9_5_0 c9_5_1 lt9_5 y9_5 c9_6_0 c9_6_1 lt9_6 y9_6 c9_7_0 c9_7_1 c9_7_2 c9_7_3 c9_7_4 c9_7_5 c9_7_6 c9_7_7 lt9_7 y9_7 c9_8_0 c9_8_1 lt9_8 y9_8 c9_9_0 c9_9_1 lt9_9 y9_9 c9_10_0 c9_10_1 lt9_10 y9_10
      have hN : Own w0 u [row ((D.nd j)) 234 #[.iface 40 (.pointer (some ⟨nd28, 0, none⟩)), .int .i32 (2 * (j : Int))], row (nd28) 44 #[.iface 52 (.pointer (some ⟨nd27, 0, none⟩)), .int .i32 (2 * (j : Int)), .string ⟨#[95]⟩, .int .i32 (2 * (j : Int)), .int .u8 0, .bool false, .bool false, .bool false], row (B1_1) 30 #[.nilIface, .int .i32 0], row (B1) 30 #[.iface 62 (.pointer (some ⟨ea, 0, none⟩)), .int .i32 loc], row (pb) 206 PC, ((mp, .map #[⟨.string ⟨#[95, 95, 115, 117, 112, 101, 114, 87, 114, 97, 112, 112, 101, 114]⟩, .agg #[.int .i32 0, .int .u32 0, .int .u32 2], 0⟩, ⟨.string ⟨#[95, 95, 115, 117, 112, 101, 114, 71, 101, 116]⟩, .agg #[.int .i32 0, .int .u32 0, .int .u32 3], 1⟩, ⟨.string ⟨#[95, 95, 112, 114, 105, 118, 97, 116, 101, 87, 114, 97, 112, 112, 101, 114]⟩, .agg #[.int .i32 0, .int .u32 0, .int .u32 4], 2⟩] 3) : Rw), row (cr) 68 #[.int .u32 0, .int .u32 1], row (ea) 65 #[.slice (some ⟨it, 0, none⟩) n n, .int .i32 0, .int .i32 0, .bool false, .bool false], row (it) 30 (itR (vT1 D (j + 1)) (vB1 D (updN nw2 j nd28) (j + 1)) n 0)] (NodTH Y D nw2 j n) := (hO.sub [6, 7, 9, 10, 3, 4, 5, 1, 2] (by decide)).conv (by
        rw [← itR_set hlt v1_other (v1_cold (nw := nw2) (a := nd28) (by rw [HKJ.out]; decide)).1 (v1_cold (nw := nw2) (a := nd28) (by rw [HKJ.out]; decide)).2]
        rw [show t0 (D.kd j) = 227 from by rw [HKJ.out]; rfl]
        rfl)
      have hP : Own w0 u [row (nd28) 44 #[.iface 52 (.pointer (some ⟨nd27, 0, none⟩)), .int .i32 (2 * (j : Int)), .string ⟨#[95]⟩, .int .i32 (2 * (j : Int)), .int .u8 0, .bool false, .bool false, .bool false], row (B1_1) 30 #[.nilIface, .int .i32 0], row (B1) 30 #[.iface 62 (.pointer (some ⟨ea, 0, none⟩)), .int .i32 loc], row (pb) 206 PC, ((mp, .map #[⟨.string ⟨#[95, 95, 115, 117, 112, 101, 114, 87, 114, 97, 112, 112, 101, 114]⟩, .agg #[.int .i32 0, .int .u32 0, .int .u32 2], 0⟩, ⟨.string ⟨#[95, 95, 115, 117, 112, 101, 114, 71, 101, 116]⟩, .agg #[.int .i32 0, .int .u32 0, .int .u32 3], 1⟩, ⟨.string ⟨#[95, 95, 112, 114, 105, 118, 97, 116, 101, 87, 114, 97, 112, 112, 101, 114]⟩, .agg #[.int .i32 0, .int .u32 0, .int .u32 4], 2⟩] 3) : Rw), row (cr) 68 #[.int .u32 0, .int .u32 1], row (ea) 65 #[.slice (some ⟨it, 0, none⟩) n n, .int .i32 0, .int .i32 0, .bool false, .bool false], row (it) 30 (itR (vT1 D (j + 1)) (vB1 D (updN nw2 j nd28) (j + 1)) n 0)] (NodT Y D (updN nw2 j nd28) (j + 1) n) := by
        refine NodT.give (p := .cells #[.iface 40 (.pointer (some ⟨nd28, 0, none⟩)), .int .i32 (2 * (j : Int))] 234 (0, 0)) ?_ ?_ hlt htj HSY.out HIJ.out
        · unfold tnO updN
          rw [if_pos HKJ.out, if_pos rfl, if_pos rfl]
        · rw [HTN.out]
          exact hN
      obtain ⟨hM, hs9⟩ := NodT.addS hP HSY.out
      go_roundg gq
      case measure => omega
      case rel => exact ⟨j + 1, true, (updN nw2 j nd28), _, by omega, rfl, by first | rfl | simp, fun b o h => Or.inl (HXY.out b o h), fun i hi h2 h4 => by
        by_cases e : i = j
        · subst e
          rw [show (updN nw2 i nd28) i = nd28 from if_pos rfl]
          exact ⟨52, nd27, _, _, _, (fun _ => by decide), addX_r⟩
        · rw [show (updN nw2 j nd28) i = nw2 i from if_neg e]
          exact (HDT.out i (by omega) h2 h4).mono addX_l, hs9, hM⟩
    · skip
      have hv0 : vT1 D j j = 220 := by rw [hvt, hkj]; rfl
      have hc0 : (itR (vT1 D j) (vB1 D nw2 j) n 0)[j * 2]? = some (.iface 220 (.pointer (some ⟨(D.nd j), 0, none⟩))) := by
        have h9 := itR_at0 (t := vT1 D j) (b := vB1 D nw2 j) (g := 0) hlt
        rwa [hv0, hvb] at h9
      have hc1 : (itR (vT1 D j) (vB1 D nw2 j) n 0)[j * 2 + 1]? = some (.int .i32 (2 * (j : Int))) := itR_at1 hlt
      have HV := Lib.hid (And.intro hvt (And.intro hvb hv0))
      clear hvt hvb hv0
      have HKJ := Lib.hid hkj
      clear hkj
      obtain ⟨ix9, hix9, hax9, hjx9⟩ := hO.ix
      have ix9_0 : ix9 B1_1 = 0 := hjx9 0 _ _ rfl
      have ix9_1 : ix9 B1 = 1 := hjx9 1 _ _ rfl
      have ix9_2 : ix9 pb = 2 := hjx9 2 _ _ rfl
      have ix9_3 : ix9 mp = 3 := hjx9 3 _ _ rfl
      have ix9_4 : ix9 cr = 4 := hjx9 4 _ _ rfl
      have ix9_5 : ix9 ea = 5 := hjx9 5 _ _ rfl
      have ix9_6 : ix9 it = 6 := hjx9 6 _ _ rfl
      clear hjx9
      obtain ⟨c9_0_0, c9_0_1, lt9_0, y9_0, pl9_0⟩ := hO.k2 0 rfl
      obtain ⟨c9_1_0, c9_1_1, lt9_1, y9_1, pl9_1⟩ := hO.k2 1 rfl
      have c9_2_32 : wr.cell? ⟨pb, 32, none⟩ = some (.bool false) := hO.cell 2 rfl (32) (hD.ts)
      have c9_2_95 : wr.cell? ⟨pb, 95, none⟩ = some (.bool r) := hO.cell 2 rfl (95) (hD.rep)
      have c9_2_96 : wr.cell? ⟨pb, 96, none⟩ = some (.bool s) := hO.cell 2 rfl (96) (hD.stat)
      have c9_2_97 : wr.cell? ⟨pb, 97, none⟩ = some (.pointer (some ⟨cr, 0, none⟩)) := hO.cell 2 rfl (97) (hD.cls)
      have c9_2_117 : wr.cell? ⟨pb, 117, none⟩ = some (.map (some mp)) := hO.cell 2 rfl (117) (hD.imp)
      have c9_2_338 : wr.cell? ⟨pb, 338, none⟩ = some (.bool true) := hO.cell 2 rfl (338) (hl)
      have c9_2_350 : wr.cell? ⟨pb, 350, none⟩ = some (.bool true) := hO.cell 2 rfl (350) (hD.dead)
      have lt9_2 : pb < wr.heap.size := hO.lt 2 rfl
      have y9_2 : ∀ o, wr.frozen? ⟨pb, o, none⟩ = false := hO.free 2 rfl
      obtain ⟨c9_4_0, c9_4_1, lt9_4, y9_4, -⟩ := hO.k2 4 rfl
      obtain ⟨c9_5_0, c9_5_1, c9_5_2, c9_5_3, c9_5_4, lt9_5, y9_5, -⟩ := hO.k5 5 rfl
      have pl9_6 : Base.plainAt wr (it) = true := hO.plain 6 rfl
      have c9_6_j_2 : wr.cell? ⟨it, j * 2, none⟩ = some (.iface 220 (.pointer (some ⟨(D.nd j), 0, none⟩))) := hO.cell 6 rfl (j * 2) (hc0)
      have c9_6_j_2_1 : wr.cell? ⟨it, j * 2 + 1, none⟩ = some (.int .i32 (2 * (j : Int))) := hO.cell 6 rfl (j * 2 + 1) (hc1)
      have lt9_6 : it < wr.heap.size := hO.lt 6 rfl
      have y9_6 : ∀ o, wr.frozen? ⟨it, o, none⟩ = false := hO.free 6 rfl
      have HO := Lib.hid hO
      clear hO
      go_wp2_with (first | (with_reducible refine Own.stay (fn := Tryd.f35) ?_) | (first | (go_at_call 34; go_in)))
      try with_reducible refine Own.Stay.mk ?_
      have hO := HO.out
      clear HO hix9 hax9 ix9_0 ix9_1 ix9_2 ix9_3 ix9_4 ix9_5 ix9_6 ix9 c9_0_0 c9_0_1 lt9_0 y9_0 pl9_0 c9_1_0 c9_1_1 lt9_1 y9_1 pl9_1 c9_2_32 c9_2_95 c9_2_96 c9_2_97 c9_2_117 c9_2_338 c9_2_350 lt9_2 y9_2 c9_4_0 c9_4_1 lt9_4 y9_4 c9_5_0 c9_5_1 c9_5_2 c9_5_3 c9_5_4 lt9_5 y9_5 pl9_6 c9_6_j_2 c9_6_j_2_1 lt9_6 y9_6
      generalize hW : World.alloc _ _ = W33
      have hN : Own w0 W33 [row (wr.heap.size) 30 #[.iface 220 (.pointer (some ⟨D.nd j, 0, none⟩)), .int .i32 (2 * (j : Int))], row (B1_1) 30 #[.nilIface, .int .i32 0], row (B1) 30 #[.iface 62 (.pointer (some ⟨ea, 0, none⟩)), .int .i32 loc], row (pb) 206 PC, ((mp, .map #[⟨.string ⟨#[95, 95, 115, 117, 112, 101, 114, 87, 114, 97, 112, 112, 101, 114]⟩, .agg #[.int .i32 0, .int .u32 0, .int .u32 2], 0⟩, ⟨.string ⟨#[95, 95, 115, 117, 112, 101, 114, 71, 101, 116]⟩, .agg #[.int .i32 0, .int .u32 0, .int .u32 3], 1⟩, ⟨.string ⟨#[95, 95, 112, 114, 105, 118, 97, 116, 101, 87, 114, 97, 112, 112, 101, 114]⟩, .agg #[.int .i32 0, .int .u32 0, .int .u32 4], 2⟩] 3) : Rw), row (cr) 68 #[.int .u32 0, .int .u32 1], row (ea) 65 #[.slice (some ⟨it, 0, none⟩) n n, .int .i32 0, .int .i32 0, .bool false, .bool false], row (it) 30 (itR (vT1 D j) (vB1 D nw2 j) n 0)] (NodT Y D nw2 j n) := by
        rw [← hW]
        exact (hO).alloc' _ (wr.heap.size) (by simp)
      clear hW hO
      generalize wr.heap.size = B32 at hN ⊢
      have hO := hN
      clear hN
      have hL := hO.apart
      have hX := hO.apartX
      have HL := Lib.hid hL
      have HX := Lib.hid hX
      clear hL hX
      have hP9 := hO.pick [3] (by decide)
      have T9 := coldItem pb PC mp cr r s (2 * (j : Int)) true 220 (D.nd j) _ _ _ hP9 hD hl (Or.inr (Or.inr (Or.inr (Or.inl rfl))))
      refine Calls.mono T9 ?_
      clear hP9 T9
      rintro e uw34 ⟨rfl, hQ⟩
      have hN : Own w0 uw34 [row (pb) 206 PC, row (B32) 30 #[.iface 220 (.pointer (some ⟨D.nd j, 0, none⟩)), .int .i32 (2 * (j : Int))], row (B1_1) 30 #[.nilIface, .int .i32 0], row (B1) 30 #[.iface 62 (.pointer (some ⟨ea, 0, none⟩)), .int .i32 loc], ((mp, .map #[⟨.string ⟨#[95, 95, 115, 117, 112, 101, 114, 87, 114, 97, 112, 112, 101, 114]⟩, .agg #[.int .i32 0, .int .u32 0, .int .u32 2], 0⟩, ⟨.string ⟨#[95, 95, 115, 117, 112, 101, 114, 71, 101, 116]⟩, .agg #[.int .i32 0, .int .u32 0, .int .u32 3], 1⟩, ⟨.string ⟨#[95, 95, 112, 114, 105, 118, 97, 116, 101, 87, 114, 97, 112, 112, 101, 114]⟩, .agg #[.int .i32 0, .int .u32 0, .int .u32 4], 2⟩] 3) : Rw), row (cr) 68 #[.int .u32 0, .int .u32 1], row (ea) 65 #[.slice (some ⟨it, 0, none⟩) n n, .int .i32 0, .int .i32 0, .bool false, .bool false], row (it) 30 (itR (vT1 D j) (vB1 D nw2 j) n 0)] (NodT Y D nw2 j n) := hQ.back HL.out HX.out [0, 1, 2, 4, 5, 6, 7] (by decide) (by decide)
      clear hQ HL HX hO
      have hO := hN
      clear hN
      obtain ⟨c9_1_0, c9_1_1, lt9_1, y9_1, -⟩ := hO.k2 1 rfl
      obtain ⟨c9_2_0, c9_2_1, lt9_2, y9_2, -⟩ := hO.k2 2 rfl
      obtain ⟨c9_3_0, c9_3_1, lt9_3, y9_3, -⟩ := hO.k2 3 rfl
      obtain ⟨c9_5_0, c9_5_1, lt9_5, y9_5, -⟩ := hO.k2 5 rfl
      obtain ⟨c9_6_0, c9_6_1, c9_6_2, c9_6_3, c9_6_4, lt9_6, y9_6, -⟩ := hO.k5 6 rfl
      have HO := Lib.hid hO
      clear hO
      go_wp2_with (first | (with_reducible refine Own.stay (fn := Tryd.f35) ?_) | (first | (go_at_call 34; go_in)))
      try with_reducible refine Own.Stay.mk ?_
      have hO := HO.out
      clear HO c9_1_0 c9_1_1 lt9_1 y9_1 c9_2_0 c9_2_1 lt9_2 y9_2 c9_3_0 c9_3_1 lt9_3 y9_3 c9_5_0 c9_5_1 lt9_5 y9_5 c9_6_0 c9_6_1 c9_6_2 c9_6_3 c9_6_4 lt9_6 y9_6
      generalize hW : World.alloc _ _ = W36
      have hN : Own w0 W36 [row (uw34.heap.size) 30 #[.iface 220 (.pointer (some ⟨D.nd j, 0, none⟩)), .int .i32 (2 * (j : Int))], row (pb) 206 PC, row (B32) 30 #[.iface 220 (.pointer (some ⟨D.nd j, 0, none⟩)), .int .i32 (2 * (j : Int))], row (B1_1) 30 #[.nilIface, .int .i32 0], row (B1) 30 #[.iface 62 (.pointer (some ⟨ea, 0, none⟩)), .int .i32 loc], ((mp, .map #[⟨.string ⟨#[95, 95, 115, 117, 112, 101, 114, 87, 114, 97, 112, 112, 101, 114]⟩, .agg #[.int .i32 0, .int .u32 0, .int .u32 2], 0⟩, ⟨.string ⟨#[95, 95, 115, 117, 112, 101, 114, 71, 101, 116]⟩, .agg #[.int .i32 0, .int .u32 0, .int .u32 3], 1⟩, ⟨.string ⟨#[95, 95, 112, 114, 105, 118, 97, 116, 101, 87, 114, 97, 112, 112, 101, 114]⟩, .agg #[.int .i32 0, .int .u32 0, .int .u32 4], 2⟩] 3) : Rw), row (cr) 68 #[.int .u32 0, .int .u32 1], row (ea) 65 #[.slice (some ⟨it, 0, none⟩) n n, .int .i32 0, .int .i32 0, .bool false, .bool false], row (it) 30 (itR (vT1 D j) (vB1 D nw2 j) n 0)] (NodT Y D nw2 j n) := by
        rw [← hW]
        exact (hO).alloc' _ (uw34.heap.size) (by simp)
      clear hW hO
      generalize uw34.heap.size = B35 at hN ⊢
      have hO := hN
      clear hN
      have hN : Own w0 W36 [row (B1_1) 30 #[.nilIface, .int .i32 0], row (B1) 30 #[.iface 62 (.pointer (some ⟨ea, 0, none⟩)), .int .i32 loc], row (pb) 206 PC, ((mp, .map #[⟨.string ⟨#[95, 95, 115, 117, 112, 101, 114, 87, 114, 97, 112, 112, 101, 114]⟩, .agg #[.int .i32 0, .int .u32 0, .int .u32 2], 0⟩, ⟨.string ⟨#[95, 95, 115, 117, 112, 101, 114, 71, 101, 116]⟩, .agg #[.int .i32 0, .int .u32 0, .int .u32 3], 1⟩, ⟨.string ⟨#[95, 95, 112, 114, 105, 118, 97, 116, 101, 87, 114, 97, 112, 112, 101, 114]⟩, .agg #[.int .i32 0, .int .u32 0, .int .u32 4], 2⟩] 3) : Rw), row (cr) 68 #[.int .u32 0, .int .u32 1], row (ea) 65 #[.slice (some ⟨it, 0, none⟩) n n, .int .i32 0, .int .i32 0, .bool false, .bool false], row (it) 30 (itR (vT1 D (j + 1)) (vB1 D (updN nw2 j 0) (j + 1)) n 0)] (NodT Y D nw2 j n) := (hO.sub [3, 4, 1, 5, 6, 7, 8] (by decide)).conv (by
        rw [itR_pass (by rw [HKJ.out]; decide)]
        rfl)
      have hP := NodT.pass 0 (show ¬ isT D j from by unfold isT; rw [HKJ.out]; decide) hN
      go_roundg gq
      case measure => omega
      case rel => exact ⟨j + 1, b9, (updN nw2 j 0), Y, by omega, rfl, by first | rfl | simp, HXY.out, fun i hi h2 h4 => by
        by_cases e : i = j
        · subst e
          exact absurd HKJ.out h4
        · rw [show (updN nw2 j 0) i = nw2 i from if_neg e]
          exact HDT.out i (by omega) h2 h4, HSY.out, hP⟩
    · skip
      have hy := HXY.out _ _ hx
      clear hx
      have hyo := HXY.out _ _ hxo
      clear hxo
      have hv0 : vT1 D j j = 229 := by rw [hvt, hkj]; rfl
      have hc0 : (itR (vT1 D j) (vB1 D nw2 j) n 0)[j * 2]? = some (.iface 229 (.pointer (some ⟨(D.nd j), 0, none⟩))) := by
        have h9 := itR_at0 (t := vT1 D j) (b := vB1 D nw2 j) (g := 0) hlt
        rwa [hv0, hvb] at h9
      have hc1 : (itR (vT1 D j) (vB1 D nw2 j) n 0)[j * 2 + 1]? = some (.int .i32 (2 * (j : Int))) := itR_at1 hlt
      have HV := Lib.hid (And.intro hvt (And.intro hvb hv0))
      clear hvt hvb hv0
      have htj : isT D j := Or.inr hkj
      have htn : tn D j = (D.pp j) := if_neg (by omega)
      have hto : tnO D nw2 false j = .cells #[.pointer none, .nilIface, .int .i32 0, .iface 40 (.pointer (some ⟨(D.inn j), 0, none⟩)), .int .i32 (2 * (j : Int)), .nilIface, .int .i32 0, .slice none 0 0, .int .i32 0, .int .i32 0, .int .u8 0, .int .u8 0] 243 (0, 0) := if_neg (by omega)
      have hN : Own w0 wr [row ((D.pp j)) 243 #[.pointer none, .nilIface, .int .i32 0, .iface 40 (.pointer (some ⟨(D.inn j), 0, none⟩)), .int .i32 (2 * (j : Int)), .nilIface, .int .i32 0, .slice none 0 0, .int .i32 0, .int .i32 0, .int .u8 0, .int .u8 0], row (B1_1) 30 #[.nilIface, .int .i32 0], row (B1) 30 #[.iface 62 (.pointer (some ⟨ea, 0, none⟩)), .int .i32 loc], row (pb) 206 PC, ((mp, .map #[⟨.string ⟨#[95, 95, 115, 117, 112, 101, 114, 87, 114, 97, 112, 112, 101, 114]⟩, .agg #[.int .i32 0, .int .u32 0, .int .u32 2], 0⟩, ⟨.string ⟨#[95, 95, 115, 117, 112, 101, 114, 71, 101, 116]⟩, .agg #[.int .i32 0, .int .u32 0, .int .u32 3], 1⟩, ⟨.string ⟨#[95, 95, 112, 114, 105, 118, 97, 116, 101, 87, 114, 97, 112, 112, 101, 114]⟩, .agg #[.int .i32 0, .int .u32 0, .int .u32 4], 2⟩] 3) : Rw), row (cr) 68 #[.int .u32 0, .int .u32 1], row (ea) 65 #[.slice (some ⟨it, 0, none⟩) n n, .int .i32 0, .int .i32 0, .bool false, .bool false], row (it) 30 (itR (vT1 D j) (vB1 D nw2 j) n 0)] (NodTH Y D nw2 j n) := by
        have h9 := NodT.take hO hlt htj
        rw [htn, hto] at h9
        exact h9
      have hne := HSY.out _ _ hy j hlt htj
      clear hO
      have hO := hN
      clear hN
      have hneo := HSY.out _ _ hyo j hlt htj
      have HTN := Lib.hid htn
      have HTO := Lib.hid hto
      have HNE := Lib.hid hne
      clear htn hto hne
      have HY := Lib.hid hy
      clear hy
      have HYO := Lib.hid (And.intro hyo hneo)
      clear hyo hneo
      have HKJ := Lib.hid hkj
      clear hkj
      obtain ⟨ix9, hix9, hax9, hjx9⟩ := hO.ix
      have ix9_0 : ix9 (D.pp j) = 0 := hjx9 0 _ _ rfl
      have ix9_1 : ix9 B1_1 = 1 := hjx9 1 _ _ rfl
      have ix9_2 : ix9 B1 = 2 := hjx9 2 _ _ rfl
      have ix9_3 : ix9 pb = 3 := hjx9 3 _ _ rfl
      have ix9_4 : ix9 mp = 4 := hjx9 4 _ _ rfl
      have ix9_5 : ix9 cr = 5 := hjx9 5 _ _ rfl
      have ix9_6 : ix9 ea = 6 := hjx9 6 _ _ rfl
      have ix9_7 : ix9 it = 7 := hjx9 7 _ _ rfl
      clear hjx9
      obtain ⟨c9_1_0, c9_1_1, lt9_1, y9_1, pl9_1⟩ := hO.k2 1 rfl
      obtain ⟨c9_2_0, c9_2_1, lt9_2, y9_2, pl9_2⟩ := hO.k2 2 rfl
      have c9_3_32 : wr.cell? ⟨pb, 32, none⟩ = some (.bool false) := hO.cell 3 rfl (32) (hD.ts)
      have c9_3_95 : wr.cell? ⟨pb, 95, none⟩ = some (.bool r) := hO.cell 3 rfl (95) (hD.rep)
      have c9_3_96 : wr.cell? ⟨pb, 96, none⟩ = some (.bool s) := hO.cell 3 rfl (96) (hD.stat)
      have c9_3_97 : wr.cell? ⟨pb, 97, none⟩ = some (.pointer (some ⟨cr, 0, none⟩)) := hO.cell 3 rfl (97) (hD.cls)
      have c9_3_117 : wr.cell? ⟨pb, 117, none⟩ = some (.map (some mp)) := hO.cell 3 rfl (117) (hD.imp)
      have c9_3_338 : wr.cell? ⟨pb, 338, none⟩ = some (.bool true) := hO.cell 3 rfl (338) (hl)
      have c9_3_350 : wr.cell? ⟨pb, 350, none⟩ = some (.bool true) := hO.cell 3 rfl (350) (hD.dead)
      have lt9_3 : pb < wr.heap.size := hO.lt 3 rfl
      have y9_3 : ∀ o, wr.frozen? ⟨pb, o, none⟩ = false := hO.free 3 rfl
      obtain ⟨c9_5_0, c9_5_1, lt9_5, y9_5, -⟩ := hO.k2 5 rfl
      obtain ⟨c9_6_0, c9_6_1, c9_6_2, c9_6_3, c9_6_4, lt9_6, y9_6, -⟩ := hO.k5 6 rfl
      have pl9_7 : Base.plainAt wr (it) = true := hO.plain 7 rfl
      have c9_7_j_2 : wr.cell? ⟨it, j * 2, none⟩ = some (.iface 229 (.pointer (some ⟨(D.nd j), 0, none⟩))) := hO.cell 7 rfl (j * 2) (hc0)
      have c9_7_j_2_1 : wr.cell? ⟨it, j * 2 + 1, none⟩ = some (.int .i32 (2 * (j : Int))) := hO.cell 7 rfl (j * 2 + 1) (hc1)
      have lt9_7 : it < wr.heap.size := hO.lt 7 rfl
      have y9_7 : ∀ o, wr.frozen? ⟨it, o, none⟩ = false := hO.free 7 rfl
      have HO := Lib.hid hO
      clear hO
      go_wp2_with (first | (with_reducible refine Own.stay (fn := Tryd.f35) ?_) | (first | (go_at_call 34; go_in)))
      try with_reducible refine Own.Stay.mk ?_
      have hO := HO.out
      clear HO hix9 hax9 ix9_0 ix9_1 ix9_2 ix9_3 ix9_4 ix9_5 ix9_6 ix9_7 ix9 c9_1_0 c9_1_1 lt9_1 y9_1 pl9_1 c9_2_0 c9_2_1 lt9_2 y9_2 pl9_2 c9_3_32 c9_3_95 c9_3_96 c9_3_97 c9_3_117 c9_3_338 c9_3_350 lt9_3 y9_3 c9_5_0 c9_5_1 lt9_5 y9_5 c9_6_0 c9_6_1 c9_6_2 c9_6_3 c9_6_4 lt9_6 y9_6 pl9_7 c9_7_j_2 c9_7_j_2_1 lt9_7 y9_7
      generalize hW : World.alloc _ _ = W38
      have hN : Own w0 W38 [row (wr.heap.size) 30 #[.iface 229 (.pointer (some ⟨D.nd j, 0, none⟩)), .int .i32 (2 * (j : Int))], row ((D.pp j)) 243 #[.pointer none, .nilIface, .int .i32 0, .iface 40 (.pointer (some ⟨(D.inn j), 0, none⟩)), .int .i32 (2 * (j : Int)), .nilIface, .int .i32 0, .slice none 0 0, .int .i32 0, .int .i32 0, .int .u8 0, .int .u8 0], row (B1_1) 30 #[.nilIface, .int .i32 0], row (B1) 30 #[.iface 62 (.pointer (some ⟨ea, 0, none⟩)), .int .i32 loc], row (pb) 206 PC, ((mp, .map #[⟨.string ⟨#[95, 95, 115, 117, 112, 101, 114, 87, 114, 97, 112, 112, 101, 114]⟩, .agg #[.int .i32 0, .int .u32 0, .int .u32 2], 0⟩, ⟨.string ⟨#[95, 95, 115, 117, 112, 101, 114, 71, 101, 116]⟩, .agg #[.int .i32 0, .int .u32 0, .int .u32 3], 1⟩, ⟨.string ⟨#[95, 95, 112, 114, 105, 118, 97, 116, 101, 87, 114, 97, 112, 112, 101, 114]⟩, .agg #[.int .i32 0, .int .u32 0, .int .u32 4], 2⟩] 3) : Rw), row (cr) 68 #[.int .u32 0, .int .u32 1], row (ea) 65 #[.slice (some ⟨it, 0, none⟩) n n, .int .i32 0, .int .i32 0, .bool false, .bool false], row (it) 30 (itR (vT1 D j) (vB1 D nw2 j) n 0)] (NodTH Y D nw2 j n) := by
        rw [← hW]
        exact (hO).alloc' _ (wr.heap.size) (by simp)
      clear hW hO
      generalize wr.heap.size = B37 at hN ⊢
      have hO := hN
      clear hN
      have hL := hO.apart
      have hX := hO.apartX
      have HL := Lib.hid hL
      have HX := Lib.hid hX
      clear hL hX
      have hP9 := hO.pick [4, 5, 6, 1] (by decide)
      have T9 := hoto pb PC mp cr r s (2 * (j : Int)) (D.inn j) kx (2 * (j : Int)) (2 * (j : Int) + 1) nm (D.nd j) (D.pp j) (2 * (j : Int)) _ _ _ hP9 hD hl hlen (Or.inl ⟨Or.inl HY.out, HNE.out⟩) (Or.inl ⟨Or.inl HYO.out.1, HYO.out.2⟩)
      refine Calls.mono T9 ?_
      clear hP9 T9
      rintro e uw39 ⟨nd40, nd41, rfl, hQ⟩
      have hN : Own w0 uw39 [row (pb) 206 PC, ((mp, .map #[⟨.string ⟨#[95, 95, 115, 117, 112, 101, 114, 87, 114, 97, 112, 112, 101, 114]⟩, .agg #[.int .i32 0, .int .u32 0, .int .u32 2], 0⟩, ⟨.string ⟨#[95, 95, 115, 117, 112, 101, 114, 71, 101, 116]⟩, .agg #[.int .i32 0, .int .u32 0, .int .u32 3], 1⟩, ⟨.string ⟨#[95, 95, 112, 114, 105, 118, 97, 116, 101, 87, 114, 97, 112, 112, 101, 114]⟩, .agg #[.int .i32 0, .int .u32 0, .int .u32 4], 2⟩] 3) : Rw), row (cr) 68 #[.int .u32 0, .int .u32 1], row (D.pp j) 243 #[.pointer none, .nilIface, .int .i32 0, .iface 40 (.pointer (some ⟨nd41, 0, none⟩)), .int .i32 (2 * (j : Int)), .nilIface, .int .i32 0, .slice none 0 0, .int .i32 0, .int .i32 0, .int .u8 0, .int .u8 0], row (nd41) 44 #[.iface 52 (.pointer (some ⟨nd40, 0, none⟩)), .int .i32 (2 * (j : Int)), .string ⟨#[95]⟩, .int .i32 (2 * (j : Int)), .int .u8 0, .bool false, .bool false, .bool false], row (B37) 30 #[.iface 229 (.pointer (some ⟨D.nd j, 0, none⟩)), .int .i32 (2 * (j : Int))], row (B1_1) 30 #[.nilIface, .int .i32 0], row (B1) 30 #[.iface 62 (.pointer (some ⟨ea, 0, none⟩)), .int .i32 loc], row (ea) 65 #[.slice (some ⟨it, 0, none⟩) n n, .int .i32 0, .int .i32 0, .bool false, .bool false], row (it) 30 (itR (vT1 D j) (vB1 D nw2 j) n 0)] (NodTH Y D nw2 j n) := hQ.back HL.out HX.out [0, 2, 3, 7, 8] (by decide) (by decide)
      clear hQ HL HX hO
      have hO := hN
      clear hN
      obtain ⟨c9_2_0, c9_2_1, lt9_2, y9_2, -⟩ := hO.k2 2 rfl
      obtain ⟨c9_4_0, c9_4_1, c9_4_2, c9_4_3, c9_4_4, c9_4_5, c9_4_6, c9_4_7, lt9_4, y9_4, -⟩ := hO.k8 4 rfl
      obtain ⟨c9_5_0, c9_5_1, lt9_5, y9_5, -⟩ := hO.k2 5 rfl
      obtain ⟨c9_6_0, c9_6_1, lt9_6, y9_6, -⟩ := hO.k2 6 rfl
      obtain ⟨c9_7_0, c9_7_1, lt9_7, y9_7, -⟩ := hO.k2 7 rfl
      obtain ⟨c9_8_0, c9_8_1, c9_8_2, c9_8_3, c9_8_4, lt9_8, y9_8, -⟩ := hO.k5 8 rfl
      have HO := Lib.hid hO
      clear hO
      go_wp2_with (first | (with_reducible refine Own.stay (fn := Tryd.f35) ?_) | (first | (go_at_call 34; go_in)))
      try with_reducible refine Own.Stay.mk ?_
      have hO := HO.out
      clear HO c9_2_0 c9_2_1 lt9_2 y9_2 c9_4_0 c9_4_1 c9_4_2 c9_4_3 c9_4_4 c9_4_5 c9_4_6 c9_4_7 lt9_4 y9_4 c9_5_0 c9_5_1 lt9_5 y9_5 c9_6_0 c9_6_1 lt9_6 y9_6 c9_7_0 c9_7_1 lt9_7 y9_7 c9_8_0 c9_8_1 c9_8_2 c9_8_3 c9_8_4 lt9_8 y9_8
      generalize hW : World.alloc _ _ = W43
      have hN : Own w0 W43 [row (uw39.heap.size) 30 #[.iface 229 (.pointer (some ⟨D.nd j, 0, none⟩)), .int .i32 (2 * (j : Int))], row (pb) 206 PC, ((mp, .map #[⟨.string ⟨#[95, 95, 115, 117, 112, 101, 114, 87, 114, 97, 112, 112, 101, 114]⟩, .agg #[.int .i32 0, .int .u32 0, .int .u32 2], 0⟩, ⟨.string ⟨#[95, 95, 115, 117, 112, 101, 114, 71, 101, 116]⟩, .agg #[.int .i32 0, .int .u32 0, .int .u32 3], 1⟩, ⟨.string ⟨#[95, 95, 112, 114, 105, 118, 97, 116, 101, 87, 114, 97, 112, 112, 101, 114]⟩, .agg #[.int .i32 0, .int .u32 0, .int .u32 4], 2⟩] 3) : Rw), row (cr) 68 #[.int .u32 0, .int .u32 1], row (D.pp j) 243 #[.pointer none, .nilIface, .int .i32 0, .iface 40 (.pointer (some ⟨nd41, 0, none⟩)), .int .i32 (2 * (j : Int)), .nilIface, .int .i32 0, .slice none 0 0, .int .i32 0, .int .i32 0, .int .u8 0, .int .u8 0], row (nd41) 44 #[.iface 52 (.pointer (some ⟨nd40, 0, none⟩)), .int .i32 (2 * (j : Int)), .string ⟨#[95]⟩, .int .i32 (2 * (j : Int)), .int .u8 0, .bool false, .bool false, .bool false], row (B37) 30 #[.iface 229 (.pointer (some ⟨D.nd j, 0, none⟩)), .int .i32 (2 * (j : Int))], row (B1_1) 30 #[.nilIface, .int .i32 0], row (B1) 30 #[.iface 62 (.pointer (some ⟨ea, 0, none⟩)), .int .i32 loc], row (ea) 65 #[.slice (some ⟨it, 0, none⟩) n n, .int .i32 0, .int .i32 0, .bool false, .bool false], row (it) 30 (itR (vT1 D j) (vB1 D nw2 j) n 0)] (NodTH Y D nw2 j n) := by
        rw [← hW]
        exact (hO).alloc' _ (uw39.heap.size) (by simp)
      clear hW hO
      generalize uw39.heap.size = B42 at hN ⊢
      have hO := hN
      clear hN
      have hL := hO.apart
      have hX := hO.apartX
      have HL := Lib.hid hL
      have HX := Lib.hid hX
      clear hL hX
      have hP9 := hO.pick [0, 9, 10] (by decide)
      generalize hX9_44 : Own.Rest _ _ (NodTH Y D nw2 j n) = X9_44 at hP9
      replace hP9 : Own w0 W43 [row (B42) 30 #[.iface 229 (.pointer (some ⟨D.nd j, 0, none⟩)), .int .i32 (2 * (j : Int))], row (ea) 65 #[.slice (some ⟨it, 0, none⟩) n n, .int .i32 0, .int .i32 0, .bool false, .bool false], row (it) 30 (itR (vT1 D j) (vB1 D nw2 j) n 0)] X9_44 := hP9
      clear hO
      have hO := hP9
      clear hP9
      have st9 := rAH5_0_st ea it n D j nw2 B42
      let R9 := rAH5_0R ea it n D j nw2 B42
      refine wp_region_own (e := rAH5_0E ea it n D j nw2 B42) (anc := rAH5_0Anc) (G := (fun L9 α u9 => OwnF w0 u9 (act rAH5_0Cnt 3 L9) (rAH5_0R ea it n D j nw2 B42 L9 α) X9_44)) (by kernel_rfl) (by kernel_rfl) (by kernel_rfl) (by kernel_rfl) (rAH5_0_he ea it n D j nw2 B42) ?_ (RunsAll.all ?_) ?_
      · have hp : ∀ i, act rAH5_0Cnt 3 (fun _ => false) i → i ∈ [999, 1999, 2999] := by
          intro i hi
          have h9 : i % 1000 = 999 := by
            by_cases h : i % 1000 = 999
            · exact h
            · exact absurd (act_lt hi h) (by simp)
          unfold act at hi
          rw [if_pos h9] at hi
          simp only [List.mem_cons, List.not_mem_nil, or_false]
          omega
        refine hO.drew.family (fun i hi => ?_) (fun i j hi hj hij => ?_)
        · have := hp i hi
          simp only [List.mem_cons, List.not_mem_nil, or_false] at this
          rcases this with rfl | rfl | rfl <;> rfl
        · have h1 := hp i hi
          have h2 := hp j hj
          simp only [List.mem_cons, List.not_mem_nil, or_false] at h1 h2
          omega
      · refine ⟨?_, ?_, ?_, ?_, ?_, ?_, ?_, ?_, trivial⟩
        · intro L9 α a9 u9 K9 hL hcl hA hG hS h0 h1 hK
          replace hL : L9 0 = false := hL
          have q17 : a9.tmps[17]? = some (.pointer (some ⟨ea, 0, none⟩)) := (h0 17 (by kernel_rfl)).trans rfl
          have s17 := Rega.eval_of q17
          go_simp
          exact hK _ α _ (fun _ _ => rfl) rfl (step_same (st9) hL hcl rfl rfl hG)
        · intro L9 α a9 u9 K9 hL hcl hA hG hS h0 h1 hK
          replace hL : L9 1 = false := hL
          have q206 : a9.tmps[206]? = some (.pointer (some ⟨ea, 0, none⟩)) := hS 0 206 (by decide) rfl (by show 206 < 250; decide)
          have s206 := Rega.eval_of q206
          go_simp
          exact hK _ α _ (fun _ _ => rfl) rfl (step_same (st9) hL hcl rfl rfl hG)
        · intro L9 α a9 u9 K9 hL hcl hA hG hS h0 h1 hK
          replace hL : L9 2 = false := hL
          have q207 : a9.tmps[207]? = some (.pointer (some ⟨ea, 0, none⟩)) := hS 1 207 (by decide) rfl (by show 207 < 250; decide)
          have s207 := Rega.eval_of q207
          go_simp
          exact hK _ α _ (fun _ _ => rfl) rfl (step_same (st9) hL hcl rfl rfl hG)
        · intro L9 α a9 u9 K9 hL hcl hA hG hS h0 h1 hK
          replace hL : L9 3 = false := hL
          have q208 : a9.tmps[208]? = some (.pointer (some ⟨ea, 0, none⟩)) := hS 2 208 (by decide) rfl (by show 208 < 250; decide)
          have s208 := Rega.eval_of q208
          have e0 : R9 L9 α 1999 = row (ea) 65 #[.slice (some ⟨it, 0, none⟩) n n, .int .i32 0, .int .i32 0, .bool false, .bool false] := rfl
          have hr := hG.rowAt 1999 (act_base 1999 rfl) e0
          have c0 : u9.cell? ⟨ea, 0, none⟩ = some (.slice (some ⟨it, 0, none⟩) n n) := hr.cell rfl
          clear hr e0
          go_simp
          exact hK _ α _ (fun _ _ => rfl) rfl (step_same (st9) hL hcl rfl rfl hG)
        · intro L9 α a9 u9 K9 hL hcl hA hG hS h0 h1 hK
          replace hL : L9 4 = false := hL
          have q18 : a9.tmps[18]? = some (.int .i64 (j : Int)) := (h0 18 (by kernel_rfl)).trans rfl
          have s18 := Rega.eval_of q18
          go_simp
          exact hK _ α _ (fun _ _ => rfl) rfl (step_same (st9) hL hcl rfl rfl hG)
        · intro L9 α a9 u9 K9 hL hcl hA hG hS h0 h1 hK
          replace hL : L9 5 = false := hL
          have q20 : a9.tmps[20]? = some (.pointer (some ⟨B42, 0, none⟩)) := (h0 20 (by kernel_rfl)).trans rfl
          have s20 := Rega.eval_of q20
          have e0 : R9 L9 α 999 = row (B42) 30 #[.iface 229 (.pointer (some ⟨D.nd j, 0, none⟩)), .int .i32 (2 * (j : Int))] := rfl
          have hr := hG.rowAt 999 (act_base 999 rfl) e0
          have c0 : u9.cell? ⟨B42, 0, none⟩ = some (.iface 229 (.pointer (some ⟨D.nd j, 0, none⟩))) := hr.cell rfl
          have c1 : u9.cell? ⟨B42, 1, none⟩ = some (.int .i32 (2 * (j : Int))) := hr.cell rfl
          clear hr e0
          go_simp
          exact hK _ α _ (fun _ _ => rfl) rfl (step_same (st9) hL hcl rfl rfl hG)
        · intro L9 α a9 u9 K9 hL hcl hA hG hS h0 h1 hK
          replace hL : L9 6 = false := hL
          have q209 : a9.tmps[209]? = some (.slice (some ⟨it, 0, none⟩) n n) := hS 3 209 (by decide) rfl (by show 209 < 250; decide)
          have s209 := Rega.eval_of q209
          have q210 : a9.tmps[210]? = some (.int .i64 (j : Int)) := hS 4 210 (by decide) rfl (by show 210 < 250; decide)
          have s210 := Rega.eval_of q210
          go_simp
          exact hK _ α _ (fun _ _ => rfl) rfl (step_same (st9) hL hcl rfl rfl hG)
        · intro L9 α a9 u9 K9 hL hcl hA hG hS h0 h1 hK
          replace hL : L9 7 = false := hL
          have q212 : a9.tmps[212]? = some (.pointer (some ⟨it, j * 2, none⟩)) := hS 6 212 (by decide) rfl (by show 212 < 250; decide)
          have s212 := Rega.eval_of q212
          have q211 : a9.tmps[211]? = some (.agg #[.iface 229 (.pointer (some ⟨D.nd j, 0, none⟩)), .int .i32 (2 * (j : Int))]) := hS 5 211 (by decide) rfl (by show 211 < 250; decide)
          have s211 := Rega.eval_of q211
          have e0 : R9 L9 α 2999 = row (it) 30 (itR (vT1 D j) (vB1 D nw2 j) n 0) := by
            show rAH5_0T2999 ea it n D j nw2 B42 L9 α = _
            unfold rAH5_0T2999
            rw [if_neg (by rw [hL]; decide)]
          have hr := hG.rowAt 2999 (act_base 2999 rfl) e0
          have c0 : u9.cell? ⟨it, j * 2, none⟩ = some (.iface 229 (.pointer (some ⟨(D.nd j), 0, none⟩))) := hr.cell (hc0)
          have y0 : u9.frozen? ⟨it, j * 2, none⟩ = false := hr.free (j * 2)
          have c1 : u9.cell? ⟨it, j * 2 + 1, none⟩ = some (.int .i32 (2 * (j : Int))) := hr.cell (hc1)
          have y1 : u9.frozen? ⟨it, j * 2 + 1, none⟩ = false := hr.free (j * 2 + 1)
          clear hr
          have E0 := Lib.hid e0
          clear e0
          go_simp
          have e1 : R9 (Rega.ran L9 7) α 2999 = row (it) 30 (((itR (vT1 D j) (vB1 D nw2 j) n 0).setIfInBounds (j * 2) (.iface 229 (.pointer (some ⟨D.nd j, 0, none⟩)))).setIfInBounds (j * 2 + 1) (.int .i32 (2 * (j : Int)))) := by
            show rAH5_0T2999 ea it n D j nw2 B42 (Rega.ran L9 7) α = _
            unfold rAH5_0T2999
            rw [if_pos (show Rega.ran L9 7 7 = true from rfl)]
          exact hK _ α _ (fun _ _ => rfl) rfl (step_sets (st9) hL hcl rfl 2999 rfl (act_base 2999 rfl) E0.out (j * 2) [.iface 229 (.pointer (some ⟨D.nd j, 0, none⟩)), .int .i32 (2 * (j : Int))] (e1.trans rfl) hG)
      clear st9
      intro α u hG
      have e0 : R9 (fun k => decide (k < 8)) α 999 = row (B42) 30 #[.iface 229 (.pointer (some ⟨D.nd j, 0, none⟩)), .int .i32 (2 * (j : Int))] := rfl
      have e1 : R9 (fun k => decide (k < 8)) α 1999 = row (ea) 65 #[.slice (some ⟨it, 0, none⟩) n n, .int .i32 0, .int .i32 0, .bool false, .bool false] := rfl
      have e2 : R9 (fun k => decide (k < 8)) α 2999 = row (it) 30 (((itR (vT1 D j) (vB1 D nw2 j) n 0).setIfInBounds (j * 2) (.iface 229 (.pointer (some ⟨D.nd j, 0, none⟩)))).setIfInBounds (j * 2 + 1) (.int .i32 (2 * (j : Int)))) := by
        show rAH5_0T2999 ea it n D j nw2 B42 (fun k => decide (k < 8)) α = _
        unfold rAH5_0T2999
        rw [if_pos (by decide)]
      have hO : Own w0 u [row (B42) 30 #[.iface 229 (.pointer (some ⟨D.nd j, 0, none⟩)), .int .i32 (2 * (j : Int))], row (ea) 65 #[.slice (some ⟨it, 0, none⟩) n n, .int .i32 0, .int .i32 0, .bool false, .bool false], row (it) 30 (((itR (vT1 D j) (vB1 D nw2 j) n 0).setIfInBounds (j * 2) (.iface 229 (.pointer (some ⟨D.nd j, 0, none⟩)))).setIfInBounds (j * 2 + 1) (.int .i32 (2 * (j : Int))))] X9_44 := (hG.list [999, 1999, 2999] (by decide) (act_all (by decide))).conv (by
        show [R9 (fun k => decide (k < 8)) α 999, R9 (fun k => decide (k < 8)) α 1999, R9 (fun k => decide (k < 8)) α 2999] = _
        rw [e0, e1, e2])
      clear hG e0 e1 e2 R9
      generalize hfr : Rega.frameAt _ _ _ _ _ = fr
      have hdf : fr = ⟨#[.pointer (some ⟨pb, 0, none⟩), .agg #[.iface 62 (.pointer (some ⟨ea, 0, none⟩)), .int .i32 loc], undef, .pointer (some ⟨B1, 0, none⟩), .pointer (some ⟨B1_1, 0, none⟩), .bool false, .bool b9, undef, undef, undef, undef, undef, undef, undef, undef, undef, undef, .pointer (some ⟨ea, 0, none⟩), .int .i64 (j : Int), .pointer (some ⟨B37, 0, none⟩), .pointer (some ⟨B42, 0, none⟩), .bool true, undef, undef, undef, undef, undef, .pointer (some ⟨B1, 0, none⟩), .iface 62 (.pointer (some ⟨ea, 0, none⟩)), .tuple #[.pointer none, .bool false], .bool false, .pointer none, undef, undef, undef, undef, undef, undef, undef, undef, undef, undef, undef, undef, undef, undef, .tuple #[.pointer none, .bool false], .bool false, .pointer none, undef, undef, undef, undef, undef, undef, undef, undef, undef, undef, undef, undef, undef, undef, undef, undef, undef, undef, undef, undef, undef, undef, undef, undef, .tuple #[.pointer none, .bool false], .bool false, .pointer none, undef, undef, undef, undef, undef, undef, undef, undef, undef, undef, undef, undef, undef, undef, undef, undef, undef, undef, undef, undef, undef, undef, undef, undef, undef, undef, undef, undef, undef, undef, undef, undef, undef, undef, undef, undef, undef, undef, undef, undef, undef, undef, undef, undef, undef, undef, undef, undef, undef, undef, undef, undef, undef, undef, undef, undef, undef, undef, undef, undef, undef, undef, undef, undef, undef, undef, undef, undef, undef, undef, undef, undef, undef, undef, undef, undef, undef, undef, undef, undef, undef, undef, undef, undef, undef, undef, undef, undef, undef, undef, undef, undef, undef, undef, undef, undef, undef, undef, undef, undef, undef, undef, undef, undef, undef, undef, undef, undef, undef, undef, .tuple #[.pointer (some ⟨ea, 0, none⟩), .bool true], .bool true, .pointer (some ⟨ea, 0, none⟩), .pointer (some ⟨ea, 0, none⟩), .pointer (some ⟨ea, 0, none⟩), .pointer (some ⟨ea, 0, none⟩), .slice (some ⟨it, 0, none⟩) n n, .int .i64 (n : Int), .int .i64 (j : Int), .bool true, .int .i64 (j : Int), .pointer (some ⟨it, j * 2, none⟩), .agg #[.iface 229 (.pointer (some ⟨D.nd j, 0, none⟩)), .int .i32 (2 * (j : Int))], .tuple #[.agg #[.iface 229 (.pointer (some ⟨D.nd j, 0, none⟩)), .int .i32 (2 * (j : Int))], .bool true], .pointer (some ⟨pb, 0, none⟩), .agg #[.iface 229 (.pointer (some ⟨D.nd j, 0, none⟩)), .int .i32 (2 * (j : Int))], .tuple #[.agg #[.iface 229 (.pointer (some ⟨D.nd j, 0, none⟩)), .int .i32 (2 * (j : Int))], .bool true], .agg #[.iface 229 (.pointer (some ⟨D.nd j, 0, none⟩)), .int .i32 (2 * (j : Int))], .bool true, .bool true, .pointer (some ⟨ea, 0, none⟩), .pointer (some ⟨ea, 0, none⟩), .pointer (some ⟨ea, 0, none⟩), .slice (some ⟨it, 0, none⟩) n n, .int .i64 (j : Int), .agg #[.iface 229 (.pointer (some ⟨D.nd j, 0, none⟩)), .int .i32 (2 * (j : Int))], .pointer (some ⟨it, j * 2, none⟩), u213, undef, undef, undef, undef, undef, undef, undef, undef, undef, undef, undef, undef, undef, undef, undef, undef, undef, undef, undef, undef, undef, undef, undef, undef, undef, undef, undef, undef, undef, undef, undef, undef, undef, undef, undef, undef], []⟩ := by rw [← hfr]; kernel_rfl
      clear hfr
      subst hdf
      clear α
      subst hX9_44
      have hN : Own w0 u [row (B42) 30 #[.iface 229 (.pointer (some ⟨D.nd j, 0, none⟩)), .int .i32 (2 * (j : Int))], row (ea) 65 #[.slice (some ⟨it, 0, none⟩) n n, .int .i32 0, .int .i32 0, .bool false, .bool false], row (it) 30 (((itR (vT1 D j) (vB1 D nw2 j) n 0).setIfInBounds (j * 2) (.iface 229 (.pointer (some ⟨D.nd j, 0, none⟩)))).setIfInBounds (j * 2 + 1) (.int .i32 (2 * (j : Int)))), row (pb) 206 PC, ((mp, .map #[⟨.string ⟨#[95, 95, 115, 117, 112, 101, 114, 87, 114, 97, 112, 112, 101, 114]⟩, .agg #[.int .i32 0, .int .u32 0, .int .u32 2], 0⟩, ⟨.string ⟨#[95, 95, 115, 117, 112, 101, 114, 71, 101, 116]⟩, .agg #[.int .i32 0, .int .u32 0, .int .u32 3], 1⟩, ⟨.string ⟨#[95, 95, 112, 114, 105, 118, 97, 116, 101, 87, 114, 97, 112, 112, 101, 114]⟩, .agg #[.int .i32 0, .int .u32 0, .int .u32 4], 2⟩] 3) : Rw), row (cr) 68 #[.int .u32 0, .int .u32 1], row (D.pp j) 243 #[.pointer none, .nilIface, .int .i32 0, .iface 40 (.pointer (some ⟨nd41, 0, none⟩)), .int .i32 (2 * (j : Int)), .nilIface, .int .i32 0, .slice none 0 0, .int .i32 0, .int .i32 0, .int .u8 0, .int .u8 0], row (nd41) 44 #[.iface 52 (.pointer (some ⟨nd40, 0, none⟩)), .int .i32 (2 * (j : Int)), .string ⟨#[95]⟩, .int .i32 (2 * (j : Int)), .int .u8 0, .bool false, .bool false, .bool false], row (B37) 30 #[.iface 229 (.pointer (some ⟨D.nd j, 0, none⟩)), .int .i32 (2 * (j : Int))], row (B1_1) 30 #[.nilIface, .int .i32 0], row (B1) 30 #[.iface 62 (.pointer (some ⟨ea, 0, none⟩)), .int .i32 loc]] (NodTH Y D nw2 j n) := hO.back HL.out HX.out [1, 2, 3, 4, 5, 6, 7, 8] (by decide) (by decide)
      clear hO HL HX
      have hO := hN
      clear hN
      obtain ⟨c9_0_0, c9_0_1, lt9_0, y9_0, -⟩ := hO.k2 0 rfl
      obtain ⟨c9_1_0, c9_1_1, c9_1_2, c9_1_3, c9_1_4, lt9_1, y9_1, -⟩ := hO.k5 1 rfl
      obtain ⟨c9_5_0, c9_5_1, lt9_5, y9_5, -⟩ := hO.k2 5 rfl
      obtain ⟨c9_7_0, c9_7_1, c9_7_2, c9_7_3, c9_7_4, c9_7_5, c9_7_6, c9_7_7, lt9_7, y9_7, -⟩ := hO.k8 7 rfl
      obtain ⟨c9_8_0, c9_8_1, lt9_8, y9_8, -⟩ := hO.k2 8 rfl
      obtain ⟨c9_9_0, c9_9_1, lt9_9, y9_9, -⟩ := hO.k2 9 rfl
      obtain ⟨c9_10_0, c9_10_1, lt9_10, y9_10, -⟩ := hO.k2 10 rfl
      have HO := Lib.hid hO
      clear hO
      go_wp2_with (first | (with_reducible refine Own.stay (fn := Tryd.f35) ?_) | (first | (go_at_call 34; go_in)))
      try with_reducible refine Own.Stay.mk ?_
      have hO := HO.out
      clear HO c9_0_0 c9_0_1 lt9_0 y9_0 c9_1_0 c9_1_1 c9_1_2 c9_1_3 c9_1_4 lt9_1 y9_1 c9_5_0 c9_5_1 lt9_5 y9_5 c9_7_0 c9_7_1 c9_7_2 c9_7_3 c9_7_4 c9_7_5 c9_7_6 c9_7_7 lt9_7 y9_7 c9_8_0 c9_8_1 lt9_8 y9_8 c9_9_0 c9_9_1 lt9_9 y9_9 c9_10_0 c9_10_1 lt9_10 y9_10
      have hN : Own w0 u [row ((D.pp j)) 243 #[.pointer none, .nilIface, .int .i32 0, .iface 40 (.pointer (some ⟨nd41, 0, none⟩)), .int .i32 (2 * (j : Int)), .nilIface, .int .i32 0, .slice none 0 0, .int .i32 0, .int .i32 0, .int .u8 0, .int .u8 0], row (nd41) 44 #[.iface 52 (.pointer (some ⟨nd40, 0, none⟩)), .int .i32 (2 * (j : Int)), .string ⟨#[95]⟩, .int .i32 (2 * (j : Int)), .int .u8 0, .bool false, .bool false, .bool false], row (B1_1) 30 #[.nilIface, .int .i32 0], row (B1) 30 #[.iface 62 (.pointer (some ⟨ea, 0, none⟩)), .int .i32 loc], row (pb) 206 PC, ((mp, .map #[⟨.string ⟨#[95, 95, 115, 117, 112, 101, 114, 87, 114, 97, 112, 112, 101, 114]⟩, .agg #[.int .i32 0, .int .u32 0, .int .u32 2], 0⟩, ⟨.string ⟨#[95, 95, 115, 117, 112, 101, 114, 71, 101, 116]⟩, .agg #[.int .i32 0, .int .u32 0, .int .u32 3], 1⟩, ⟨.string ⟨#[95, 95, 112, 114, 105, 118, 97, 116, 101, 87, 114, 97, 112, 112, 101, 114]⟩, .agg #[.int .i32 0, .int .u32 0, .int .u32 4], 2⟩] 3) : Rw), row (cr) 68 #[.int .u32 0, .int .u32 1], row (ea) 65 #[.slice (some ⟨it, 0, none⟩) n n, .int .i32 0, .int .i32 0, .bool false, .bool false], row (it) 30 (itR (vT1 D (j + 1)) (vB1 D (updN nw2 j nd41) (j + 1)) n 0)] (NodTH Y D nw2 j n) := (hO.sub [6, 7, 9, 10, 3, 4, 5, 1, 2] (by decide)).conv (by
        rw [← itR_set hlt v1_other (v1_cold (nw := nw2) (a := nd41) (by rw [HKJ.out]; decide)).1 (v1_cold (nw := nw2) (a := nd41) (by rw [HKJ.out]; decide)).2]
        rw [show t0 (D.kd j) = 229 from by rw [HKJ.out]; rfl]
        rfl)
      have hP : Own w0 u [row (nd41) 44 #[.iface 52 (.pointer (some ⟨nd40, 0, none⟩)), .int .i32 (2 * (j : Int)), .string ⟨#[95]⟩, .int .i32 (2 * (j : Int)), .int .u8 0, .bool false, .bool false, .bool false], row (B1_1) 30 #[.nilIface, .int .i32 0], row (B1) 30 #[.iface 62 (.pointer (some ⟨ea, 0, none⟩)), .int .i32 loc], row (pb) 206 PC, ((mp, .map #[⟨.string ⟨#[95, 95, 115, 117, 112, 101, 114, 87, 114, 97, 112, 112, 101, 114]⟩, .agg #[.int .i32 0, .int .u32 0, .int .u32 2], 0⟩, ⟨.string ⟨#[95, 95, 115, 117, 112, 101, 114, 71, 101, 116]⟩, .agg #[.int .i32 0, .int .u32 0, .int .u32 3], 1⟩, ⟨.string ⟨#[95, 95, 112, 114, 105, 118, 97, 116, 101, 87, 114, 97, 112, 112, 101, 114]⟩, .agg #[.int .i32 0, .int .u32 0, .int .u32 4], 2⟩] 3) : Rw), row (cr) 68 #[.int .u32 0, .int .u32 1], row (ea) 65 #[.slice (some ⟨it, 0, none⟩) n n, .int .i32 0, .int .i32 0, .bool false, .bool false], row (it) 30 (itR (vT1 D (j + 1)) (vB1 D (updN nw2 j nd41) (j + 1)) n 0)] (NodT Y D (updN nw2 j nd41) (j + 1) n) := by
        refine NodT.give (p := .cells #[.pointer none, .nilIface, .int .i32 0, .iface 40 (.pointer (some ⟨nd41, 0, none⟩)), .int .i32 (2 * (j : Int)), .nilIface, .int .i32 0, .slice none 0 0, .int .i32 0, .int .i32 0, .int .u8 0, .int .u8 0] 243 (0, 0)) ?_ ?_ hlt htj HSY.out HIJ.out
        · unfold tnO updN
          rw [if_neg (by rw [HKJ.out]; decide), if_pos rfl, if_pos rfl]
        · rw [HTN.out]
          exact hN
      obtain ⟨hM, hs9⟩ := NodT.addS hP HSY.out
      go_roundg gq
      case measure => omega
      case rel => exact ⟨j + 1, true, (updN nw2 j nd41), _, by omega, rfl, by first | rfl | simp, fun b o h => Or.inl (HXY.out b o h), fun i hi h2 h4 => by
        by_cases e : i = j
        · subst e
          rw [show (updN nw2 i nd41) i = nd41 from if_pos rfl]
          exact ⟨52, nd40, _, _, _, (fun _ => by decide), addX_r⟩
        · rw [show (updN nw2 j nd41) i = nw2 i from if_neg e]
          exact (HDT.out i (by omega) h2 h4).mono addX_l, hs9, hM⟩
  obtain rfl : gk = 0 := by omega
  obtain rfl : n = j := by omega
  have hlt9 : ¬ (n : Int) < (n : Int) := by omega
  obtain ⟨c9_0_0, c9_0_1, lt9_0, y9_0, -⟩ := hO.k2 0 rfl
  obtain ⟨c9_1_0, c9_1_1, lt9_1, y9_1, -⟩ := hO.k2 1 rfl
  obtain ⟨c9_4_0, c9_4_1, lt9_4, y9_4, -⟩ := hO.k2 4 rfl
  obtain ⟨c9_5_0, c9_5_1, c9_5_2, c9_5_3, c9_5_4, lt9_5, y9_5, -⟩ := hO.k5 5 rfl
  have HO := Lib.hid hO
  clear hO
  go_wp2_with (first | (with_reducible refine Own.stay (fn := Tryd.f35) ?_) | (first | (go_at_call 34; go_in)))
  try with_reducible refine Own.Stay.mk ?_
  have hO := HO.out
  clear HO c9_0_0 c9_0_1 lt9_0 y9_0 c9_1_0 c9_1_1 lt9_1 y9_1 c9_4_0 c9_4_1 lt9_4 y9_4 c9_5_0 c9_5_1 c9_5_2 c9_5_3 c9_5_4 lt9_5 y9_5
  generalize hW : World.setCell _ _ _ = W46
  have hN : Own w0 W46 [row (B1_1) 30 #[.iface 62 (.pointer (some ⟨ea, 0, none⟩)), .int .i32 loc], row (B1) 30 #[.iface 62 (.pointer (some ⟨ea, 0, none⟩)), .int .i32 loc], row (pb) 206 PC, ((mp, .map #[⟨.string ⟨#[95, 95, 115, 117, 112, 101, 114, 87, 114, 97, 112, 112, 101, 114]⟩, .agg #[.int .i32 0, .int .u32 0, .int .u32 2], 0⟩, ⟨.string ⟨#[95, 95, 115, 117, 112, 101, 114, 71, 101, 116]⟩, .agg #[.int .i32 0, .int .u32 0, .int .u32 3], 1⟩, ⟨.string ⟨#[95, 95, 112, 114, 105, 118, 97, 116, 101, 87, 114, 97, 112, 112, 101, 114]⟩, .agg #[.int .i32 0, .int .u32 0, .int .u32 4], 2⟩] 3) : Rw), row (cr) 68 #[.int .u32 0, .int .u32 1], row (ea) 65 #[.slice (some ⟨it, 0, none⟩) n n, .int .i32 0, .int .i32 0, .bool false, .bool false], row (it) 30 (itR (vT1 D n) (vB1 D nw2 n) n 0)] (NodT Y D nw2 n n) := by
    rw [← hW]
    exact ((hO).set 0 rfl 0 _).set 0 rfl 1 _
  clear hW hO
  have hO := hN
  clear hN
  have z9_0_0 : W46.cell? ⟨B1_1, 0, none⟩ = some (.iface 62 (.pointer (some ⟨ea, 0, none⟩))) := hO.cell 0 rfl 0 rfl
  have z9_0_1 : W46.cell? ⟨B1_1, 1, none⟩ = some (.int .i32 loc) := hO.cell 0 rfl 1 rfl
  refine bodyPost_ret (v := .tuple #[.agg #[.iface 62 (.pointer (some ⟨ea, 0, none⟩)), .int .i32 loc], .bool b9]) ?_ rfl ⟨b9, nw2, Y, rfl, HXY.out, HDT.out, hO.sub [2, 3, 4, 5, 6] (by decide)⟩
  simp [results, Tryd.results35, go_sem, z9_0_0, z9_0_1]
end Go.Proofs.YtcbdjbjbikiaeaaDoor.Use
