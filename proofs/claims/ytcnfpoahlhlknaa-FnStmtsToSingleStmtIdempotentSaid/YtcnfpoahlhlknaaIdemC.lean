/- zzBuildStmts by contract and the walk of FnStmtsToSingleStmtIdempotent: true for all locations and all lists of kinds. -/
import Derived.Test.YtcnfpoahlhlknaaIdemB
namespace Go.Proofs.Ytcnfpoahlhlknaa.idem
open Go.ChangeShapes Go.WideShapes Go.ChangeAt Go.RowKit
set_option linter.unusedVariables false

theorem make0 (w : World) : (Instr.makeSlice 33 (.int .i64 0) (.int .i64 0)).run Try.prog w = .ok (.slice (some ⟨w.heap.size, 0, none⟩) 0 0) (w.alloc (.cells #[] 29)) := by kernel_rfl
theorem make1 (w : World) : (Instr.makeSlice 33 (.int .i64 1) (.int .i64 1)).run Try.prog w = .ok (.slice (some ⟨w.heap.size, 0, none⟩) 1 1) (w.alloc (.cells #[.nilIface, .int .i32 0] 29)) := by kernel_rfl

theorem build0 (loc cl : Int) (ka : Option Addr) (c : Nat) (w : World) :
    Calls Try.prog 12 #[.slice ka 0 c] w (Stage 58 noKd loc cl loc w) := by
  have hm := make0
  go_enter Try.func12, Try.ntmps12
  go_wp2
  refine wp_loop_rounds 1 ?_
  rw [rounds_succ]
  go_wp2
  go_ret
  exact ⟨_, rfl, by go_grown, emptyNone _ _ _ _⟩

theorem build1_0 (loc cl k : Int) (kb ko c : Nat) (w : World) (hk : 0 ≤ k) (hk2 : k ≤ 255) (hc : w.cell? ⟨kb, ko, none⟩ = some (.int .u8 k)) (h : Hid (k % 8 = 0)) :
    Calls Try.prog 12 #[.slice (some ⟨kb, ko, none⟩) 1 c] w (Stage 63 noKd loc cl 0 w) := by
  have hm := make1
  have hkb : kb < w.heap.size := Base.block_of_cell hc
  go_enter Try.func12, Try.ntmps12
  go_wp2
  refine wp_loop_rounds 2 ?_
  rw [rounds_succ]
  go_wp2_with fail
  refine Calls.mono (kind0 _ _ _ hk hk2 h.out) ?_
  rintro e w1 ⟨b, rfl, hb1, hlo, hlt, -⟩
  have hlo' : w.heap.size + 1 ≤ b := by simpa using hlo
  have c0 : w1.cell? ⟨w.heap.size, 0, none⟩ = some .nilIface := Base.cell_below hb1 (by simp) (by simp [go_sem])
  have c1 : w1.cell? ⟨w.heap.size, 1, none⟩ = some (.int .i32 0) := Base.cell_below hb1 (by simp) (by simp [go_sem])
  have f0 : w1.frozen? ⟨w.heap.size, 0, none⟩ = false := by rw [hb1.frozen (by simp)]; simp [go_sem]
  have f1 : w1.frozen? ⟨w.heap.size, 1, none⟩ = false := by rw [hb1.frozen (by simp)]; simp [go_sem]
  have hbel : Below w.heap.size w w1 := Below.trans (by go_grown) (hb1.mono (by simp <;> omega))
  clear hb1 hlo
  go_wp2_with fail
  rw [rounds_succ]
  go_wp2
  go_ret
  refine ⟨_, rfl, ?_, ?_⟩
  · exact (hbel.setCell (Nat.le_refl _) _).setCell (Nat.le_refl _) _
  · refine Calls.mono (keepExpr _ _ 0 b _ _ (by simp <;> omega) (by simp <;> omega) (by simp [go_sem, c0]) (by simp [go_sem, c1])) ?_
    rintro e w9 ⟨rfl, hb9⟩
    refine ⟨b, rfl, hb9, ?_, ?_⟩
    · have := hb9.size
      simp at this
      omega
    · trivial

theorem build1_1 (loc cl k : Int) (kb ko c : Nat) (w : World) (hk : 0 ≤ k) (hk2 : k ≤ 255) (hc : w.cell? ⟨kb, ko, none⟩ = some (.int .u8 k)) (h : Hid (k % 8 = 1)) :
    Calls Try.prog 12 #[.slice (some ⟨kb, ko, none⟩) 1 c] w (Stage 119 (isKd 0) loc cl 0 w) := by
  have hm := make1
  have hkb : kb < w.heap.size := Base.block_of_cell hc
  go_enter Try.func12, Try.ntmps12
  go_wp2
  refine wp_loop_rounds 2 ?_
  rw [rounds_succ]
  go_wp2_with fail
  refine Calls.mono (kind1 _ _ _ hk hk2 h.out) ?_
  rintro e w1 ⟨b, rfl, hb1, hlo, hlt, hkd⟩
  have hlo' : w.heap.size + 1 ≤ b := by simpa using hlo
  have c0 : w1.cell? ⟨w.heap.size, 0, none⟩ = some .nilIface := Base.cell_below hb1 (by simp) (by simp [go_sem])
  have c1 : w1.cell? ⟨w.heap.size, 1, none⟩ = some (.int .i32 0) := Base.cell_below hb1 (by simp) (by simp [go_sem])
  have f0 : w1.frozen? ⟨w.heap.size, 0, none⟩ = false := by rw [hb1.frozen (by simp)]; simp [go_sem]
  have f1 : w1.frozen? ⟨w.heap.size, 1, none⟩ = false := by rw [hb1.frozen (by simp)]; simp [go_sem]
  have hbel : Below w.heap.size w w1 := Below.trans (by go_grown) (hb1.mono (by simp <;> omega))
  have k1 : w1.cell? ⟨b, 1, none⟩ = some (.int .u8 0) := hkd
  have hne : ¬ b = w.heap.size := by omega
  clear hkd
  clear hb1 hlo
  go_wp2_with fail
  rw [rounds_succ]
  go_wp2
  go_ret
  refine ⟨_, rfl, ?_, ?_⟩
  · exact (hbel.setCell (Nat.le_refl _) _).setCell (Nat.le_refl _) _
  · refine Calls.mono (keepLocal _ _ 0 b _ _ (by simp <;> omega) (by simp <;> omega) (by simp [go_sem, c0]) (by simp [go_sem, c1]) (by simp [go_sem, k1])) ?_
    rintro e w9 ⟨rfl, hb9⟩
    refine ⟨b, rfl, hb9, ?_, ?_⟩
    · have := hb9.size
      simp at this
      omega
    · show World.cell? _ _ = _
      rw [hb9.cell (show b < _ by simp <;> omega)]
      simp [go_sem, k1]

theorem build1_2 (loc cl k : Int) (kb ko c : Nat) (w : World) (hk : 0 ≤ k) (hk2 : k ≤ 255) (hc : w.cell? ⟨kb, ko, none⟩ = some (.int .u8 k)) (h : Hid (k % 8 = 2)) :
    Calls Try.prog 12 #[.slice (some ⟨kb, ko, none⟩) 1 c] w (Stage 34 noKd loc cl loc w) := by
  have hm := make1
  have hkb : kb < w.heap.size := Base.block_of_cell hc
  go_enter Try.func12, Try.ntmps12
  go_wp2
  refine wp_loop_rounds 2 ?_
  rw [rounds_succ]
  go_wp2_with fail
  refine Calls.mono (kind2 _ _ _ hk hk2 h.out) ?_
  rintro e w1 ⟨b, rfl, hb1, hlo, hlt, hkd⟩
  have hlo' : w.heap.size + 1 ≤ b := by simpa using hlo
  have c0 : w1.cell? ⟨w.heap.size, 0, none⟩ = some .nilIface := Base.cell_below hb1 (by simp) (by simp [go_sem])
  have c1 : w1.cell? ⟨w.heap.size, 1, none⟩ = some (.int .i32 0) := Base.cell_below hb1 (by simp) (by simp [go_sem])
  have f0 : w1.frozen? ⟨w.heap.size, 0, none⟩ = false := by rw [hb1.frozen (by simp)]; simp [go_sem]
  have f1 : w1.frozen? ⟨w.heap.size, 1, none⟩ = false := by rw [hb1.frozen (by simp)]; simp [go_sem]
  have hbel : Below w.heap.size w w1 := Below.trans (by go_grown) (hb1.mono (by simp <;> omega))
  have k1 : w1.cell? ⟨b, 1, none⟩ = some (.int .u8 1) := hkd
  have hne : ¬ b = w.heap.size := by omega
  clear hkd
  clear hb1 hlo
  go_wp2_with fail
  rw [rounds_succ]
  go_wp2
  go_ret
  refine ⟨_, rfl, ?_, ?_⟩
  · exact (hbel.setCell (Nat.le_refl _) _).setCell (Nat.le_refl _) _
  · exact blockLet _ _ 0 b _ _ (by simp <;> omega) (by simp <;> omega) (by simp [go_sem, c0]) (by simp [go_sem, c1]) (by simp [go_sem, k1])

theorem build1_3 (loc cl k : Int) (kb ko c : Nat) (w : World) (hk : 0 ≤ k) (hk2 : k ≤ 255) (hc : w.cell? ⟨kb, ko, none⟩ = some (.int .u8 k)) (h : Hid (k % 8 = 3)) :
    Calls Try.prog 12 #[.slice (some ⟨kb, ko, none⟩) 1 c] w (Stage 34 noKd loc cl loc w) := by
  have hm := make1
  have hkb : kb < w.heap.size := Base.block_of_cell hc
  go_enter Try.func12, Try.ntmps12
  go_wp2
  refine wp_loop_rounds 2 ?_
  rw [rounds_succ]
  go_wp2_with fail
  refine Calls.mono (kind3 _ _ _ hk hk2 h.out) ?_
  rintro e w1 ⟨b, rfl, hb1, hlo, hlt, hkd⟩
  have hlo' : w.heap.size + 1 ≤ b := by simpa using hlo
  have c0 : w1.cell? ⟨w.heap.size, 0, none⟩ = some .nilIface := Base.cell_below hb1 (by simp) (by simp [go_sem])
  have c1 : w1.cell? ⟨w.heap.size, 1, none⟩ = some (.int .i32 0) := Base.cell_below hb1 (by simp) (by simp [go_sem])
  have f0 : w1.frozen? ⟨w.heap.size, 0, none⟩ = false := by rw [hb1.frozen (by simp)]; simp [go_sem]
  have f1 : w1.frozen? ⟨w.heap.size, 1, none⟩ = false := by rw [hb1.frozen (by simp)]; simp [go_sem]
  have hbel : Below w.heap.size w w1 := Below.trans (by go_grown) (hb1.mono (by simp <;> omega))
  have k1 : w1.cell? ⟨b, 1, none⟩ = some (.int .u8 2) := hkd
  have hne : ¬ b = w.heap.size := by omega
  clear hkd
  clear hb1 hlo
  go_wp2_with fail
  rw [rounds_succ]
  go_wp2
  go_ret
  refine ⟨_, rfl, ?_, ?_⟩
  · exact (hbel.setCell (Nat.le_refl _) _).setCell (Nat.le_refl _) _
  · exact blockConst _ _ 0 b _ _ (by simp <;> omega) (by simp <;> omega) (by simp [go_sem, c0]) (by simp [go_sem, c1]) (by simp [go_sem, k1])

theorem build1_4 (loc cl k : Int) (kb ko c : Nat) (w : World) (hk : 0 ≤ k) (hk2 : k ≤ 255) (hc : w.cell? ⟨kb, ko, none⟩ = some (.int .u8 k)) (h : Hid (k % 8 = 4)) :
    Calls Try.prog 12 #[.slice (some ⟨kb, ko, none⟩) 1 c] w (Stage 34 noKd loc cl loc w) := by
  have hm := make1
  have hkb : kb < w.heap.size := Base.block_of_cell hc
  go_enter Try.func12, Try.ntmps12
  go_wp2
  refine wp_loop_rounds 2 ?_
  rw [rounds_succ]
  go_wp2_with fail
  refine Calls.mono (kind4 _ _ _ hk hk2 h.out) ?_
  rintro e w1 ⟨b, rfl, hb1, hlo, hlt, -⟩
  have hlo' : w.heap.size + 1 ≤ b := by simpa using hlo
  have c0 : w1.cell? ⟨w.heap.size, 0, none⟩ = some .nilIface := Base.cell_below hb1 (by simp) (by simp [go_sem])
  have c1 : w1.cell? ⟨w.heap.size, 1, none⟩ = some (.int .i32 0) := Base.cell_below hb1 (by simp) (by simp [go_sem])
  have f0 : w1.frozen? ⟨w.heap.size, 0, none⟩ = false := by rw [hb1.frozen (by simp)]; simp [go_sem]
  have f1 : w1.frozen? ⟨w.heap.size, 1, none⟩ = false := by rw [hb1.frozen (by simp)]; simp [go_sem]
  have hbel : Below w.heap.size w w1 := Below.trans (by go_grown) (hb1.mono (by simp <;> omega))
  clear hb1 hlo
  go_wp2_with fail
  rw [rounds_succ]
  go_wp2
  go_ret
  refine ⟨_, rfl, ?_, ?_⟩
  · exact (hbel.setCell (Nat.le_refl _) _).setCell (Nat.le_refl _) _
  · exact blockFunction _ _ 0 b _ _ (by simp <;> omega) (by simp <;> omega) (by simp [go_sem, c0]) (by simp [go_sem, c1])

theorem build1_5 (loc cl k : Int) (kb ko c : Nat) (w : World) (hk : 0 ≤ k) (hk2 : k ≤ 255) (hc : w.cell? ⟨kb, ko, none⟩ = some (.int .u8 k)) (h : Hid (k % 8 = 5)) :
    Calls Try.prog 12 #[.slice (some ⟨kb, ko, none⟩) 1 c] w (Stage 34 noKd loc cl loc w) := by
  have hm := make1
  have hkb : kb < w.heap.size := Base.block_of_cell hc
  go_enter Try.func12, Try.ntmps12
  go_wp2
  refine wp_loop_rounds 2 ?_
  rw [rounds_succ]
  go_wp2_with fail
  refine Calls.mono (kind5 _ _ _ hk hk2 h.out) ?_
  rintro e w1 ⟨b, rfl, hb1, hlo, hlt, -⟩
  have hlo' : w.heap.size + 1 ≤ b := by simpa using hlo
  have c0 : w1.cell? ⟨w.heap.size, 0, none⟩ = some .nilIface := Base.cell_below hb1 (by simp) (by simp [go_sem])
  have c1 : w1.cell? ⟨w.heap.size, 1, none⟩ = some (.int .i32 0) := Base.cell_below hb1 (by simp) (by simp [go_sem])
  have f0 : w1.frozen? ⟨w.heap.size, 0, none⟩ = false := by rw [hb1.frozen (by simp)]; simp [go_sem]
  have f1 : w1.frozen? ⟨w.heap.size, 1, none⟩ = false := by rw [hb1.frozen (by simp)]; simp [go_sem]
  have hbel : Below w.heap.size w w1 := Below.trans (by go_grown) (hb1.mono (by simp <;> omega))
  clear hb1 hlo
  go_wp2_with fail
  rw [rounds_succ]
  go_wp2
  go_ret
  refine ⟨_, rfl, ?_, ?_⟩
  · exact (hbel.setCell (Nat.le_refl _) _).setCell (Nat.le_refl _) _
  · exact blockClass _ _ 0 b _ _ (by simp <;> omega) (by simp <;> omega) (by simp [go_sem, c0]) (by simp [go_sem, c1])

theorem build1_6 (loc cl k : Int) (kb ko c : Nat) (w : World) (hk : 0 ≤ k) (hk2 : k ≤ 255) (hc : w.cell? ⟨kb, ko, none⟩ = some (.int .u8 k)) (h : Hid (k % 8 = 6)) :
    Calls Try.prog 12 #[.slice (some ⟨kb, ko, none⟩) 1 c] w (Stage 98 noKd loc cl 0 w) := by
  have hm := make1
  have hkb : kb < w.heap.size := Base.block_of_cell hc
  go_enter Try.func12, Try.ntmps12
  go_wp2
  refine wp_loop_rounds 2 ?_
  rw [rounds_succ]
  go_wp2_with fail
  refine Calls.mono (kind6 _ _ _ hk hk2 h.out) ?_
  rintro e w1 ⟨b, rfl, hb1, hlo, hlt, -⟩
  have hlo' : w.heap.size + 1 ≤ b := by simpa using hlo
  have c0 : w1.cell? ⟨w.heap.size, 0, none⟩ = some .nilIface := Base.cell_below hb1 (by simp) (by simp [go_sem])
  have c1 : w1.cell? ⟨w.heap.size, 1, none⟩ = some (.int .i32 0) := Base.cell_below hb1 (by simp) (by simp [go_sem])
  have f0 : w1.frozen? ⟨w.heap.size, 0, none⟩ = false := by rw [hb1.frozen (by simp)]; simp [go_sem]
  have f1 : w1.frozen? ⟨w.heap.size, 1, none⟩ = false := by rw [hb1.frozen (by simp)]; simp [go_sem]
  have hbel : Below w.heap.size w w1 := Below.trans (by go_grown) (hb1.mono (by simp <;> omega))
  clear hb1 hlo
  go_wp2_with fail
  rw [rounds_succ]
  go_wp2
  go_ret
  refine ⟨_, rfl, ?_, ?_⟩
  · exact (hbel.setCell (Nat.le_refl _) _).setCell (Nat.le_refl _) _
  · refine Calls.mono (keepReturn _ _ 0 b _ _ (by simp <;> omega) (by simp <;> omega) (by simp [go_sem, c0]) (by simp [go_sem, c1])) ?_
    rintro e w9 ⟨rfl, hb9⟩
    refine ⟨b, rfl, hb9, ?_, ?_⟩
    · have := hb9.size
      simp at this
      omega
    · trivial

theorem build1_7 (loc cl k : Int) (kb ko c : Nat) (w : World) (hk : 0 ≤ k) (hk2 : k ≤ 255) (hc : w.cell? ⟨kb, ko, none⟩ = some (.int .u8 k)) (h : Hid (k % 8 = 7)) :
    Calls Try.prog 12 #[.slice (some ⟨kb, ko, none⟩) 1 c] w (Stage 66 noKd loc cl 0 w) := by
  have hm := make1
  have hkb : kb < w.heap.size := Base.block_of_cell hc
  go_enter Try.func12, Try.ntmps12
  go_wp2
  refine wp_loop_rounds 2 ?_
  rw [rounds_succ]
  go_wp2_with fail
  refine Calls.mono (kind7 _ _ _ hk hk2 h.out) ?_
  rintro e w1 ⟨b, rfl, hb1, hlo, hlt, -⟩
  have hlo' : w.heap.size + 1 ≤ b := by simpa using hlo
  have c0 : w1.cell? ⟨w.heap.size, 0, none⟩ = some .nilIface := Base.cell_below hb1 (by simp) (by simp [go_sem])
  have c1 : w1.cell? ⟨w.heap.size, 1, none⟩ = some (.int .i32 0) := Base.cell_below hb1 (by simp) (by simp [go_sem])
  have f0 : w1.frozen? ⟨w.heap.size, 0, none⟩ = false := by rw [hb1.frozen (by simp)]; simp [go_sem]
  have f1 : w1.frozen? ⟨w.heap.size, 1, none⟩ = false := by rw [hb1.frozen (by simp)]; simp [go_sem]
  have hbel : Below w.heap.size w w1 := Below.trans (by go_grown) (hb1.mono (by simp <;> omega))
  clear hb1 hlo
  go_wp2_with fail
  rw [rounds_succ]
  go_wp2
  go_ret
  refine ⟨_, rfl, ?_, ?_⟩
  · exact (hbel.setCell (Nat.le_refl _) _).setCell (Nat.le_refl _) _
  · refine Calls.mono (keepIf _ _ 0 b _ _ (by simp <;> omega) (by simp <;> omega) (by simp [go_sem, c0]) (by simp [go_sem, c1])) ?_
    rintro e w9 ⟨rfl, hb9⟩
    refine ⟨b, rfl, hb9, ?_, ?_⟩
    · have := hb9.size
      simp at this
      omega
    · trivial

theorem info29 : (Try.prog.info? 29).map (fun i => (i.zero, i.size, i.bytes)) = some (some (.agg #[.nilIface, .int .i32 0]), 2, 24) := by kernel_rfl
theorem makeN (n : Nat) (hn : n ≤ 65536) (w : World) : (Instr.makeSlice 33 (.int .i64 (n : Int)) (.int .i64 (n : Int))).run Try.prog w = .ok (.slice (some ⟨w.heap.size, 0, none⟩) n n) (w.alloc (.cells (madeCells #[.nilIface, .int .i32 0] (n * 2)) 29)) := by
  obtain ⟨i, hi, hzz⟩ := Option.map_eq_some_iff.1 info29
  simp only [Prod.mk.injEq] at hzz
  obtain ⟨hz, hs, hb⟩ := hzz
  have hr := run_make (P := Try.prog) w 33 29 i _ Try.underlying33 hi hz .i64 .i64 n n (by omega) (Int.le_refl _) (by rw [hb]; omega) (by omega)
  rw [hs, Int.toNat_natCast] at hr
  exact hr

def StmtAny (loc : Int) (w : World) (e : Ending) (w' : World) : Prop :=
  ∃ T b, e = .returned (.agg #[.iface T (.pointer (some ⟨b, 0, none⟩)), .int .i32 loc]) ∧ Below w.heap.size w w'
theorem StmtMade.any {T : TypeId} {kd : World → Nat → Prop} {loc : Int} {w : World} (e : Ending) (w' : World) (h : StmtMade T kd loc w e w') : StmtAny loc w e w' := by
  obtain ⟨b, he, hb, _⟩ := h
  exact ⟨T, b, he, hb⟩
theorem kindAny (k loc : Int) (w : World) (hk : 0 ≤ k) (hk2 : k ≤ 255) :
    Calls Try.prog 21 #[.int .u8 k, .int .i32 loc] w (StmtAny loc w) := by
  obtain h | h | h | h | h | h | h | h : k % 8 = 0 ∨ k % 8 = 1 ∨ k % 8 = 2 ∨ k % 8 = 3 ∨ k % 8 = 4 ∨ k % 8 = 5 ∨ k % 8 = 6 ∨ k % 8 = 7 := by omega
  · exact (kind0 k loc w hk hk2 h).mono StmtMade.any
  · exact (kind1 k loc w hk hk2 h).mono StmtMade.any
  · exact (kind2 k loc w hk hk2 h).mono StmtMade.any
  · exact (kind3 k loc w hk hk2 h).mono StmtMade.any
  · exact (kind4 k loc w hk hk2 h).mono StmtMade.any
  · exact (kind5 k loc w hk hk2 h).mono StmtMade.any
  · exact (kind6 k loc w hk hk2 h).mono StmtMade.any
  · exact (kind7 k loc w hk hk2 h).mono StmtMade.any

/-- At a round's head: k statements are laid; the row B is the call's own. -/
def ManyRel (n B : Nat) (w : World) (v : Value) (wr : World) : Prop :=
  ∃ (k : Nat) (c : Array Value), v = .int .i64 k ∧ k ≤ n ∧ c.size = n * 2 ∧ wr.heap[B]? = some (.cells c 29 (0, 0)) ∧ Below B w wr

set_option maxRecDepth 100000 in
theorem buildMany (loc cl : Int) (kb ko c n : Nat) (hn : 2 ≤ n) (hn2 : n ≤ 65536) (zs : Nat → Int) (w : World) (hz : Hid (∀ i, i < n → w.cell? ⟨kb, ko + i, none⟩ = some (.int .u8 (zs i)) ∧ 0 ≤ zs i ∧ zs i ≤ 255)) :
    Calls Try.prog 12 #[.slice (some ⟨kb, ko, none⟩) n c] w (Stage 34 noKd loc cl loc w) := by
  have hm := makeN n hn2
  have hkb : kb < w.heap.size := Base.block_of_cell (hz.out 0 (by omega)).1
  go_enter Try.func12, Try.ntmps12
  go_wp2
  clear hm
  go_loopw [4] (fun v wr => ManyRel n w.heap.size w v wr) (fun v _ => n - (intOf v).toNat)
  case atStart => exact ⟨0, _, rfl, by omega, size_madeCells _ _, (MapKept.heap_alloc w _).1, by go_grown⟩
  case round =>
    obtain ⟨k, cs, rfl, hk, hcs, hB, hbel⟩ := hrel
    by_cases hlt : k < n
    · obtain ⟨z0, z1, z2⟩ := hz.out k hlt
      have hck : wr.cell? ⟨kb, ko + k, none⟩ = some (.int .u8 (zs k)) := by rw [hbel.cell hkb]; exact z0
      have hBlt : w.heap.size < wr.heap.size := (Array.getElem?_eq_some_iff.1 hB).1
      have HB := Lib.hid hB
      have HC := Lib.hid hcs
      clear hB hcs z0
      go_wp2_with fail
      refine Calls.mono (kindAny _ _ _ z1 z2) ?_
      rintro e w1 ⟨T, b, rfl, hb1⟩
      have hB1 : w1.heap[w.heap.size]? = some (.cells cs 29 (0, 0)) := by rw [hb1.block _ hBlt]; exact HB.out
      have hs0 : k * 2 < cs.size := by rw [HC.out]; omega
      have hs1 : k * 2 + 1 < cs.size := by rw [HC.out]; omega
      obtain ⟨v0, c0⟩ : ∃ v, w1.cell? ⟨w.heap.size, k * 2, none⟩ = some v := ⟨_, Base.cell_of_blk hB1 _ hs0⟩
      obtain ⟨v1, c1⟩ : ∃ v, w1.cell? ⟨w.heap.size, k * 2 + 1, none⟩ = some v := ⟨_, Base.cell_of_blk hB1 _ hs1⟩
      have f0 : w1.frozen? ⟨w.heap.size, k * 2, none⟩ = false := Base.free_of_blk hB1 _
      have f1 : w1.frozen? ⟨w.heap.size, k * 2 + 1, none⟩ = false := Base.free_of_blk hB1 _
      have HB1 := Lib.hid hB1
      clear hB1
      go_wp2
      go_roundw
      case rel =>
        refine ⟨k + 1, _, by go_num, by omega, ?_, Base.blk_setCell (Base.blk_setCell HB1.out _ _) _ _, ?_⟩
        · simp only [Array.size_setIfInBounds]; exact HC.out
        · exact ((hbel.trans (hb1.mono (by omega))).setCell (Nat.le_refl _) _).setCell (Nat.le_refl _) _
      case measure => simp [intOf]; omega
    · go_wp2
      go_ret
      exact ⟨_, rfl, hbel, blockMany _ _ n _ hn hn2 _⟩

theorem law_any (loc cl loc2 cl2 : Int) (ka : Option Addr) (n c : Nat) (zs : Nat → Int) (w : World) (hn : n ≤ 65536)
    (hz : n ≠ 0 → ∃ kb ko, ka = some ⟨kb, ko, none⟩ ∧ ∀ i, i < n → w.cell? ⟨kb, ko + i, none⟩ = some (.int .u8 (zs i)) ∧ 0 ≤ zs i ∧ zs i ≤ 255) :
    Calls Try.prog 4 #[.int .i32 loc, .int .i32 cl, .int .i32 loc2, .int .i32 cl2, .slice ka n c] w fun e w' => e = .returned (.bool true) ∧ Below w.heap.size w w' := by
  by_cases h0 : n = 0
  · subst h0
    exact endEmpty loc cl loc2 cl2 loc ka 0 c hn w (build0 loc cl ka c w)
  obtain ⟨kb, ko, rfl, hzz⟩ := hz h0
  by_cases h1 : n = 1
  · subst h1
    obtain ⟨z0, z1, z2⟩ := hzz 0 (by omega)
    rw [Nat.add_zero] at z0
    obtain h | h | h | h | h | h | h | h : zs 0 % 8 = 0 ∨ zs 0 % 8 = 1 ∨ zs 0 % 8 = 2 ∨ zs 0 % 8 = 3 ∨ zs 0 % 8 = 4 ∨ zs 0 % 8 = 5 ∨ zs 0 % 8 = 6 ∨ zs 0 % 8 = 7 := by omega
    · exact endExpr loc cl loc2 cl2 0 _ 1 c hn w (build1_0 loc cl _ kb ko c w z1 z2 z0 h)
    · exact endLocal loc cl loc2 cl2 0 _ 1 c hn w (build1_1 loc cl _ kb ko c w z1 z2 z0 h)
    · exact endBlock loc cl loc2 cl2 loc _ 1 c hn w (build1_2 loc cl _ kb ko c w z1 z2 z0 h)
    · exact endBlock loc cl loc2 cl2 loc _ 1 c hn w (build1_3 loc cl _ kb ko c w z1 z2 z0 h)
    · exact endBlock loc cl loc2 cl2 loc _ 1 c hn w (build1_4 loc cl _ kb ko c w z1 z2 z0 h)
    · exact endBlock loc cl loc2 cl2 loc _ 1 c hn w (build1_5 loc cl _ kb ko c w z1 z2 z0 h)
    · exact endReturn loc cl loc2 cl2 0 _ 1 c hn w (build1_6 loc cl _ kb ko c w z1 z2 z0 h)
    · exact endIf loc cl loc2 cl2 0 _ 1 c hn w (build1_7 loc cl _ kb ko c w z1 z2 z0 h)
  · exact endBlock loc cl loc2 cl2 loc _ n c hn w (buildMany loc cl kb ko c n (by omega) hn zs w hzz)

set_option maxRecDepth 100000 in
theorem law_big (loc cl loc2 cl2 : Int) (ka : Option Addr) (n c : Nat) (w : World) (hn : 65536 < n) (hm : n ≤ 9223372036854775807) :
    Calls Try.prog 4 #[.int .i32 loc, .int .i32 cl, .int .i32 loc2, .int .i32 cl2, .slice ka n c] w fun e w' => e = .returned (.bool true) ∧ Below w.heap.size w w' := by
  go_enter Try.func4, Try.ntmps4
  go_wp2
  all_goals go_ret
  all_goals exact ⟨rfl, by go_grown⟩

end Go.Proofs.Ytcnfpoahlhlknaa.idem
