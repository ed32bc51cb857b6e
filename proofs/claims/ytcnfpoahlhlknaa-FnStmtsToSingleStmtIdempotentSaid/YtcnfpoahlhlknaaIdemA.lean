/- Contracts of zzStmtOfKind and stmtsToSingleStmt at the kinds of statements that the law FnStmtsToSingleStmtIdempotent builds. -/
import Derived.Test.YtcnfpoahlhlknaaRows
import Derived.Test.YtcnfpoahlhlknaaMore
namespace Go.Proofs.Ytcnfpoahlhlknaa.idem
open Go.ChangeShapes Go.WideShapes Go.ChangeAt Go.RowKit
set_option linter.unusedVariables false

/-- A statement node of type T was made in new memory; 'kd' says what else is known of it. -/
def StmtMade (T : TypeId) (kd : World → Nat → Prop) (loc : Int) (w : World) (e : Ending) (w' : World) : Prop :=
  ∃ b, e = .returned (.agg #[.iface T (.pointer (some ⟨b, 0, none⟩)), .int .i32 loc]) ∧ Below w.heap.size w w' ∧ w.heap.size ≤ b ∧ b < w'.heap.size ∧ kd w' b
def noKd : World → Nat → Prop := fun _ _ => True
def isKd (k : Int) : World → Nat → Prop := fun w b => w.cell? ⟨b, 1, none⟩ = some (.int .u8 k)

theorem rem8 (k : Int) (j : Int) (h : k % 8 = j) (i : Int) (hi : i ≠ j) : (k % 8 == i) = false := by
  simp only [beq_eq_false_iff_ne, ne_eq]; omega
theorem rem8' (k : Int) (j : Int) (h : k % 8 = j) : (k % 8 == j) = true := by
  simp [h]

set_option maxRecDepth 100000 in
theorem kind0 (k loc : Int) (w : World) (hk : 0 ≤ k) (hk2 : k ≤ 255) (h : k % 8 = 0) :
    Calls Try.prog 21 #[.int .u8 k, .int .i32 loc] w (StmtMade 63 noKd loc w) := by
  have t0 := rem8' k 0 h
  clear h
  go_enter Try.func21, Try.ntmps21
  go_wp2
  go_returns
  refine ⟨w.heap.size + 1 + 1, rfl, by go_grown, by omega, by simp, ?_⟩
  · trivial

set_option maxRecDepth 100000 in
theorem kind1 (k loc : Int) (w : World) (hk : 0 ≤ k) (hk2 : k ≤ 255) (h : k % 8 = 1) :
    Calls Try.prog 21 #[.int .u8 k, .int .i32 loc] w (StmtMade 119 (isKd 0) loc w) := by
  have t0 := rem8 k 1 h 0 (by decide)
  have t1 := rem8' k 1 h
  clear h
  go_enter Try.func21, Try.ntmps21
  go_wp2
  go_returns
  refine ⟨w.heap.size + 1 + 1, rfl, by go_grown, by omega, by simp, ?_⟩
  · show World.cell? _ _ = _
    simp [go_sem]

set_option maxRecDepth 100000 in
theorem kind2 (k loc : Int) (w : World) (hk : 0 ≤ k) (hk2 : k ≤ 255) (h : k % 8 = 2) :
    Calls Try.prog 21 #[.int .u8 k, .int .i32 loc] w (StmtMade 119 (isKd 1) loc w) := by
  have t0 := rem8 k 2 h 0 (by decide)
  have t1 := rem8 k 2 h 1 (by decide)
  have t2 := rem8' k 2 h
  clear h
  go_enter Try.func21, Try.ntmps21
  go_wp2
  go_returns
  refine ⟨w.heap.size + 1 + 1, rfl, by go_grown, by omega, by simp, ?_⟩
  · show World.cell? _ _ = _
    simp [go_sem]

set_option maxRecDepth 100000 in
theorem kind3 (k loc : Int) (w : World) (hk : 0 ≤ k) (hk2 : k ≤ 255) (h : k % 8 = 3) :
    Calls Try.prog 21 #[.int .u8 k, .int .i32 loc] w (StmtMade 119 (isKd 2) loc w) := by
  have t0 := rem8 k 3 h 0 (by decide)
  have t1 := rem8 k 3 h 1 (by decide)
  have t2 := rem8 k 3 h 2 (by decide)
  have t3 := rem8' k 3 h
  clear h
  go_enter Try.func21, Try.ntmps21
  go_wp2
  go_returns
  refine ⟨w.heap.size + 1 + 1, rfl, by go_grown, by omega, by simp, ?_⟩
  · show World.cell? _ _ = _
    simp [go_sem]

set_option maxRecDepth 100000 in
theorem kind4 (k loc : Int) (w : World) (hk : 0 ≤ k) (hk2 : k ≤ 255) (h : k % 8 = 4) :
    Calls Try.prog 21 #[.int .u8 k, .int .i32 loc] w (StmtMade 124 noKd loc w) := by
  have t0 := rem8 k 4 h 0 (by decide)
  have t1 := rem8 k 4 h 1 (by decide)
  have t2 := rem8 k 4 h 2 (by decide)
  have t3 := rem8 k 4 h 3 (by decide)
  have t4 := rem8' k 4 h
  clear h
  go_enter Try.func21, Try.ntmps21
  go_wp2
  go_returns
  refine ⟨w.heap.size + 1 + 1, rfl, by go_grown, by omega, by simp, ?_⟩
  · trivial

set_option maxRecDepth 100000 in
theorem kind5 (k loc : Int) (w : World) (hk : 0 ≤ k) (hk2 : k ≤ 255) (h : k % 8 = 5) :
    Calls Try.prog 21 #[.int .u8 k, .int .i32 loc] w (StmtMade 147 noKd loc w) := by
  have t0 := rem8 k 5 h 0 (by decide)
  have t1 := rem8 k 5 h 1 (by decide)
  have t2 := rem8 k 5 h 2 (by decide)
  have t3 := rem8 k 5 h 3 (by decide)
  have t4 := rem8 k 5 h 4 (by decide)
  have t5 := rem8' k 5 h
  clear h
  go_enter Try.func21, Try.ntmps21
  go_wp2
  go_returns
  refine ⟨w.heap.size + 1 + 1, rfl, by go_grown, by omega, by simp, ?_⟩
  · trivial

set_option maxRecDepth 100000 in
theorem kind6 (k loc : Int) (w : World) (hk : 0 ≤ k) (hk2 : k ≤ 255) (h : k % 8 = 6) :
    Calls Try.prog 21 #[.int .u8 k, .int .i32 loc] w (StmtMade 98 noKd loc w) := by
  have t0 := rem8 k 6 h 0 (by decide)
  have t1 := rem8 k 6 h 1 (by decide)
  have t2 := rem8 k 6 h 2 (by decide)
  have t3 := rem8 k 6 h 3 (by decide)
  have t4 := rem8 k 6 h 4 (by decide)
  have t5 := rem8 k 6 h 5 (by decide)
  have t6 := rem8' k 6 h
  clear h
  go_enter Try.func21, Try.ntmps21
  go_wp2
  go_returns
  refine ⟨w.heap.size + 1 + 1, rfl, by go_grown, by omega, by simp, ?_⟩
  · trivial

set_option maxRecDepth 100000 in
theorem kind7 (k loc : Int) (w : World) (hk : 0 ≤ k) (hk2 : k ≤ 255) (h : k % 8 = 7) :
    Calls Try.prog 21 #[.int .u8 k, .int .i32 loc] w (StmtMade 66 noKd loc w) := by
  have t0 := rem8 k 7 h 0 (by decide)
  have t1 := rem8 k 7 h 1 (by decide)
  have t2 := rem8 k 7 h 2 (by decide)
  have t3 := rem8 k 7 h 3 (by decide)
  have t4 := rem8 k 7 h 4 (by decide)
  have t5 := rem8 k 7 h 5 (by decide)
  have t6 := rem8 k 7 h 6 (by decide)
  clear h
  go_enter Try.func21, Try.ntmps21
  go_wp2
  go_returns
  refine ⟨w.heap.size + 1 + 1, rfl, by go_grown, by omega, by simp, ?_⟩
  · trivial

/-- The answer of a fold: a node of type T at location l0. -/
def StmtRes (T : TypeId) (kd : World → Nat → Prop) (l0 : Int) (w : World) (e : Ending) (w' : World) : Prop :=
  ∃ b, e = .returned (.agg #[.iface T (.pointer (some ⟨b, 0, none⟩)), .int .i32 l0]) ∧ Below w.heap.size w w' ∧ b < w'.heap.size ∧ kd w' b


set_option maxRecDepth 100000 in
theorem keepExpr (loc cl l0 : Int) (b R : Nat) (w : World) (hR : R < w.heap.size) (hb : b < w.heap.size) (c0 : w.cell? ⟨R, 0, none⟩ = some (.iface 63 (.pointer (some ⟨b, 0, none⟩)))) (c1 : w.cell? ⟨R, 1, none⟩ = some (.int .i32 l0)) :
    Calls Try.prog 13 #[.agg #[.int .i32 loc], .slice (some ⟨R, 0, none⟩) 1 1, .agg #[.int .i32 cl]] w
      fun e w' => e = .returned (.agg #[.iface 63 (.pointer (some ⟨b, 0, none⟩)), .int .i32 l0]) ∧ Below w.heap.size w w' := by
  obtain ⟨a1, a2, a3, a4, a5, a6, a7, a8, a9, a10, a11, a12⟩ := Base.lts hR
  obtain ⟨b1, b2, b3, b4, b5, b6, b7, b8, b9, b10, b11, b12⟩ := Base.lts hb
  go_enter Try.func13, Try.ntmps13
  go_wp2
  go_returns
  exact ⟨rfl, by go_grown⟩

set_option maxRecDepth 100000 in
theorem keepLocal (loc cl l0 : Int) (b R : Nat) (w : World) (hR : R < w.heap.size) (hb : b < w.heap.size) (c0 : w.cell? ⟨R, 0, none⟩ = some (.iface 119 (.pointer (some ⟨b, 0, none⟩)))) (c1 : w.cell? ⟨R, 1, none⟩ = some (.int .i32 l0)) (hk : w.cell? ⟨b, 1, none⟩ = some (.int .u8 0)) :
    Calls Try.prog 13 #[.agg #[.int .i32 loc], .slice (some ⟨R, 0, none⟩) 1 1, .agg #[.int .i32 cl]] w
      fun e w' => e = .returned (.agg #[.iface 119 (.pointer (some ⟨b, 0, none⟩)), .int .i32 l0]) ∧ Below w.heap.size w w' := by
  obtain ⟨a1, a2, a3, a4, a5, a6, a7, a8, a9, a10, a11, a12⟩ := Base.lts hR
  obtain ⟨b1, b2, b3, b4, b5, b6, b7, b8, b9, b10, b11, b12⟩ := Base.lts hb
  go_enter Try.func13, Try.ntmps13
  go_wp2
  go_returns
  exact ⟨rfl, by go_grown⟩

set_option maxRecDepth 100000 in
theorem keepReturn (loc cl l0 : Int) (b R : Nat) (w : World) (hR : R < w.heap.size) (hb : b < w.heap.size) (c0 : w.cell? ⟨R, 0, none⟩ = some (.iface 98 (.pointer (some ⟨b, 0, none⟩)))) (c1 : w.cell? ⟨R, 1, none⟩ = some (.int .i32 l0)) :
    Calls Try.prog 13 #[.agg #[.int .i32 loc], .slice (some ⟨R, 0, none⟩) 1 1, .agg #[.int .i32 cl]] w
      fun e w' => e = .returned (.agg #[.iface 98 (.pointer (some ⟨b, 0, none⟩)), .int .i32 l0]) ∧ Below w.heap.size w w' := by
  obtain ⟨a1, a2, a3, a4, a5, a6, a7, a8, a9, a10, a11, a12⟩ := Base.lts hR
  obtain ⟨b1, b2, b3, b4, b5, b6, b7, b8, b9, b10, b11, b12⟩ := Base.lts hb
  go_enter Try.func13, Try.ntmps13
  go_wp2
  go_returns
  exact ⟨rfl, by go_grown⟩

set_option maxRecDepth 100000 in
theorem keepIf (loc cl l0 : Int) (b R : Nat) (w : World) (hR : R < w.heap.size) (hb : b < w.heap.size) (c0 : w.cell? ⟨R, 0, none⟩ = some (.iface 66 (.pointer (some ⟨b, 0, none⟩)))) (c1 : w.cell? ⟨R, 1, none⟩ = some (.int .i32 l0)) :
    Calls Try.prog 13 #[.agg #[.int .i32 loc], .slice (some ⟨R, 0, none⟩) 1 1, .agg #[.int .i32 cl]] w
      fun e w' => e = .returned (.agg #[.iface 66 (.pointer (some ⟨b, 0, none⟩)), .int .i32 l0]) ∧ Below w.heap.size w w' := by
  obtain ⟨a1, a2, a3, a4, a5, a6, a7, a8, a9, a10, a11, a12⟩ := Base.lts hR
  obtain ⟨b1, b2, b3, b4, b5, b6, b7, b8, b9, b10, b11, b12⟩ := Base.lts hb
  go_enter Try.func13, Try.ntmps13
  go_wp2
  go_returns
  exact ⟨rfl, by go_grown⟩

set_option maxRecDepth 100000 in
theorem keepBlock (loc cl l0 : Int) (b R : Nat) (w : World) (hR : R < w.heap.size) (hb : b < w.heap.size) (c0 : w.cell? ⟨R, 0, none⟩ = some (.iface 34 (.pointer (some ⟨b, 0, none⟩)))) (c1 : w.cell? ⟨R, 1, none⟩ = some (.int .i32 l0)) :
    Calls Try.prog 13 #[.agg #[.int .i32 loc], .slice (some ⟨R, 0, none⟩) 1 1, .agg #[.int .i32 cl]] w
      fun e w' => e = .returned (.agg #[.iface 34 (.pointer (some ⟨b, 0, none⟩)), .int .i32 l0]) ∧ Below w.heap.size w w' := by
  obtain ⟨a1, a2, a3, a4, a5, a6, a7, a8, a9, a10, a11, a12⟩ := Base.lts hR
  obtain ⟨b1, b2, b3, b4, b5, b6, b7, b8, b9, b10, b11, b12⟩ := Base.lts hb
  go_enter Try.func13, Try.ntmps13
  go_wp2
  go_returns
  exact ⟨rfl, by go_grown⟩

set_option maxRecDepth 100000 in
theorem keepEmpty (loc cl l0 : Int) (b R : Nat) (w : World) (hR : R < w.heap.size) (hb : b < w.heap.size) (c0 : w.cell? ⟨R, 0, none⟩ = some (.iface 58 (.pointer (some ⟨b, 0, none⟩)))) (c1 : w.cell? ⟨R, 1, none⟩ = some (.int .i32 l0)) :
    Calls Try.prog 13 #[.agg #[.int .i32 loc], .slice (some ⟨R, 0, none⟩) 1 1, .agg #[.int .i32 cl]] w
      fun e w' => e = .returned (.agg #[.iface 58 (.pointer (some ⟨b, 0, none⟩)), .int .i32 l0]) ∧ Below w.heap.size w w' := by
  obtain ⟨a1, a2, a3, a4, a5, a6, a7, a8, a9, a10, a11, a12⟩ := Base.lts hR
  obtain ⟨b1, b2, b3, b4, b5, b6, b7, b8, b9, b10, b11, b12⟩ := Base.lts hb
  go_enter Try.func13, Try.ntmps13
  go_wp2
  go_returns
  exact ⟨rfl, by go_grown⟩

set_option maxRecDepth 100000 in
theorem blockLet (loc cl l0 : Int) (b R : Nat) (w : World) (hR : R < w.heap.size) (hb : b < w.heap.size) (c0 : w.cell? ⟨R, 0, none⟩ = some (.iface 119 (.pointer (some ⟨b, 0, none⟩)))) (c1 : w.cell? ⟨R, 1, none⟩ = some (.int .i32 l0)) (hk : w.cell? ⟨b, 1, none⟩ = some (.int .u8 1)) :
    Calls Try.prog 13 #[.agg #[.int .i32 loc], .slice (some ⟨R, 0, none⟩) 1 1, .agg #[.int .i32 cl]] w (StmtRes 34 noKd loc w) := by
  obtain ⟨a1, a2, a3, a4, a5, a6, a7, a8, a9, a10, a11, a12⟩ := Base.lts hR
  obtain ⟨b1, b2, b3, b4, b5, b6, b7, b8, b9, b10, b11, b12⟩ := Base.lts hb
  go_enter Try.func13, Try.ntmps13
  go_wp2
  go_returns
  exact ⟨_, rfl, by go_grown, by simp, trivial⟩

set_option maxRecDepth 100000 in
theorem blockConst (loc cl l0 : Int) (b R : Nat) (w : World) (hR : R < w.heap.size) (hb : b < w.heap.size) (c0 : w.cell? ⟨R, 0, none⟩ = some (.iface 119 (.pointer (some ⟨b, 0, none⟩)))) (c1 : w.cell? ⟨R, 1, none⟩ = some (.int .i32 l0)) (hk : w.cell? ⟨b, 1, none⟩ = some (.int .u8 2)) :
    Calls Try.prog 13 #[.agg #[.int .i32 loc], .slice (some ⟨R, 0, none⟩) 1 1, .agg #[.int .i32 cl]] w (StmtRes 34 noKd loc w) := by
  obtain ⟨a1, a2, a3, a4, a5, a6, a7, a8, a9, a10, a11, a12⟩ := Base.lts hR
  obtain ⟨b1, b2, b3, b4, b5, b6, b7, b8, b9, b10, b11, b12⟩ := Base.lts hb
  go_enter Try.func13, Try.ntmps13
  go_wp2
  go_returns
  exact ⟨_, rfl, by go_grown, by simp, trivial⟩

set_option maxRecDepth 100000 in
theorem blockFunction (loc cl l0 : Int) (b R : Nat) (w : World) (hR : R < w.heap.size) (hb : b < w.heap.size) (c0 : w.cell? ⟨R, 0, none⟩ = some (.iface 124 (.pointer (some ⟨b, 0, none⟩)))) (c1 : w.cell? ⟨R, 1, none⟩ = some (.int .i32 l0)) :
    Calls Try.prog 13 #[.agg #[.int .i32 loc], .slice (some ⟨R, 0, none⟩) 1 1, .agg #[.int .i32 cl]] w (StmtRes 34 noKd loc w) := by
  obtain ⟨a1, a2, a3, a4, a5, a6, a7, a8, a9, a10, a11, a12⟩ := Base.lts hR
  obtain ⟨b1, b2, b3, b4, b5, b6, b7, b8, b9, b10, b11, b12⟩ := Base.lts hb
  go_enter Try.func13, Try.ntmps13
  go_wp2
  go_returns
  exact ⟨_, rfl, by go_grown, by simp, trivial⟩

set_option maxRecDepth 100000 in
theorem blockClass (loc cl l0 : Int) (b R : Nat) (w : World) (hR : R < w.heap.size) (hb : b < w.heap.size) (c0 : w.cell? ⟨R, 0, none⟩ = some (.iface 147 (.pointer (some ⟨b, 0, none⟩)))) (c1 : w.cell? ⟨R, 1, none⟩ = some (.int .i32 l0)) :
    Calls Try.prog 13 #[.agg #[.int .i32 loc], .slice (some ⟨R, 0, none⟩) 1 1, .agg #[.int .i32 cl]] w (StmtRes 34 noKd loc w) := by
  obtain ⟨a1, a2, a3, a4, a5, a6, a7, a8, a9, a10, a11, a12⟩ := Base.lts hR
  obtain ⟨b1, b2, b3, b4, b5, b6, b7, b8, b9, b10, b11, b12⟩ := Base.lts hb
  go_enter Try.func13, Try.ntmps13
  go_wp2
  go_returns
  exact ⟨_, rfl, by go_grown, by simp, trivial⟩

set_option maxRecDepth 100000 in
theorem blockMany (loc cl : Int) (n R : Nat) (hn : 2 ≤ n) (hn2 : n ≤ 65536) (w : World) :
    Calls Try.prog 13 #[.agg #[.int .i32 loc], .slice (some ⟨R, 0, none⟩) n n, .agg #[.int .i32 cl]] w (StmtRes 34 noKd loc w) := by
  have h0 : ((n : Int) == 0) = false := by simp; omega
  have h1 : ((n : Int) == 1) = false := by simp; omega
  go_enter Try.func13, Try.ntmps13
  go_wp2
  go_returns
  exact ⟨_, rfl, by go_grown, by simp, trivial⟩

set_option maxRecDepth 100000 in
theorem emptyNone (loc cl : Int) (R : Option Addr) (w : World) :
    Calls Try.prog 13 #[.agg #[.int .i32 loc], .slice R 0 0, .agg #[.int .i32 cl]] w (StmtRes 58 noKd loc w) := by
  go_enter Try.func13, Try.ntmps13
  go_wp2
  go_returns
  exact ⟨_, rfl, by go_grown, by simp, trivial⟩

end Go.Proofs.Ytcnfpoahlhlknaa.idem
