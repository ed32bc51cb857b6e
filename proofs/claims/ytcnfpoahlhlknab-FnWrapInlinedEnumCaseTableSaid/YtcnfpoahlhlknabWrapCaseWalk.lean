/- The walk of FnWrapInlinedEnumCaseTable: true for every location, inner index and comment. -/
import Derived.Test.YtcnfpoahlhlknabWrapWalk
import Derived.Test.YtcnfpoahlhlknabMore
import Derived.Lib.QuietBelow
namespace Go.Proofs.Ytcnfpoahlhlknab.wrapEnum
open Go.ChangeShapes Go.WideShapes Go.ChangeAt Go.RowKit Go.Sort
set_option linter.unusedVariables false

theorem hit_star (s : ByteArray) (k : Nat) (h : k + 1 < s.size) : hit s star k = true ↔ (s[k].toNat : Int) = 42 ∧ (s[k + 1].toNat : Int) = 47 := by
  rw [hit_iff]
  have e : (s.data.toList.drop k).take star.size = [s[k], s[k + 1]] := by
    have h1 : k < s.data.toList.length := by simp; omega
    have h2 : k + 1 < s.data.toList.length := by simp; omega
    show (s.data.toList.drop k).take 2 = _
    rw [List.drop_eq_getElem_cons h1, List.take_succ_cons, List.drop_eq_getElem_cons h2, List.take_succ_cons, List.take_zero]
    rfl
  rw [e]
  show [s[k], s[k + 1]] = [42, 47] ↔ _
  simp only [List.cons.injEq, and_true, ← UInt8.toNat_inj]
  constructor
  · rintro ⟨a, b⟩
    exact ⟨by simpa using congrArg Int.ofNat a, by simpa using congrArg Int.ofNat b⟩
  · rintro ⟨a, b⟩
    exact ⟨by simpa using Int.ofNat.inj a, by simpa using Int.ofNat.inj b⟩

theorem closer_any (s : ByteArray) (w : World) (hs : s.size ≤ 4194304) (r : Bool) (hr : Hid (r = true ↔ Has s star)) :
    Calls Try.prog 7 #[.string s] w fun e w' => e = .returned (.bool r) ∧ w = w' := by
  go_enter Try.func7, Try.ntmps7
  go_wp2
  go_loop [3] (fun v => ∃ k : Nat, v = .int .i64 k ∧ k ≤ s.size ∧ Hid (∀ i, i < k → hit s star i = false)) (fun v => s.size + 1 - (intOf v).toNat)
  case atStart => exact ⟨0, rfl, by omega, fun i hi => absurd hi (Nat.not_lt_zero i)⟩
  case round =>
    obtain ⟨k, rfl, hk, hno⟩ := hrel
    by_cases hlt : k + 1 < s.size
    · have H : Hid (hit s star k = true ↔ (s[k].toNat : Int) = 42 ∧ (s[k + 1].toNat : Int) = 47) := hit_star s k hlt
      have hgo : hit s star k = false → Hid (∀ i, i < k + 1 → hit s star i = false) := fun hf i hi => by
        by_cases e : i = k
        · subst e; exact hf
        · exact hno.out i (by omega)
      have HG := Lib.hid hgo
      clear hgo
      go_wp2
      · have a1 : (s[k].toNat : Int) = 42 := by assumption
        have a2 : ((s[k + 1].toNat : Int) == 47) = true := by assumption
        go_ret
        have hr1 : r = true := hr.out.2 ⟨k, by show k + 2 ≤ s.size; omega, H.out.2 ⟨a1, by simpa using a2⟩⟩
        subst hr1
        exact ⟨rfl, rfl⟩
      · have a2 : ((s[k + 1].toNat : Int) == 47) = false := by assumption
        refine ⟨⟨k + 1, by go_num, by omega, HG.out ?_⟩, by simp [intOf]; omega⟩
        rw [← Bool.not_eq_true, H.out]
        intro h
        rw [h.2] at a2
        exact absurd a2 (by decide)
      · have a1 : ¬ (s[k].toNat : Int) = 42 := by assumption
        refine ⟨⟨k + 1, by go_num, by omega, HG.out ?_⟩, by simp [intOf]; omega⟩
        rw [← Bool.not_eq_true, H.out]
        exact fun h => a1 h.1
    · go_wp2
      go_ret
      have hr0 : r = false := by
        rw [← Bool.not_eq_true, hr.out]
        rintro ⟨i, hi, hh⟩
        have hi2 : i + 2 ≤ s.size := hi
        rw [hno.out i (by omega)] at hh
        cases hh
      subst hr0
      exact ⟨rfl, rfl⟩

theorem ident_yes (b : Nat) (loc src inner : Int) (w : World) (c0 : w.cell? ⟨b, 0, none⟩ = some (.int .u32 src)) (c1 : w.cell? ⟨b, 1, none⟩ = some (.int .u32 inner)) :
    Calls Try.prog 8 #[.agg #[.iface 28 (.pointer (some ⟨b, 0, none⟩)), .int .i32 loc], .agg #[.int .u32 src, .int .u32 inner]] w fun e w' => e = .returned (.bool true) ∧ Below w.heap.size w w' := by
  have hb := Base.block_of_cell c0
  obtain ⟨b1, b2, b3, b4, b5, b6, b7, b8, b9, b10, b11, b12⟩ := Base.lts hb
  go_enter Try.func8, Try.ntmps8
  go_wp2
  generalize hW : World.alloc _ _ = W
  have k0 := cell_regrown (w := W) (a := ⟨b, 0, none⟩) (v := .int .u32 src) (by rw [← hW]; simp [go_sem, c0, hb, b1, b2])
  have k1 := cell_regrown (w := W) (a := ⟨b, 1, none⟩) (v := .int .u32 inner) (by rw [← hW]; simp [go_sem, c1, hb, b1, b2])
  have k2 := cell_regrown (w := W) (a := ⟨w.heap.size + 1, 0, none⟩) (v := .int .u32 src) (by rw [← hW]; simp [go_sem])
  have k3 := cell_regrown (w := W) (a := ⟨w.heap.size + 1, 1, none⟩) (v := .int .u32 inner) (by rw [← hW]; simp [go_sem])
  have hbel : Below w.heap.size w W := by rw [← hW]; go_grown
  clear hW
  refine wp_region_quiet_below (by kernel_rfl) (by kernel_rfl) ?_
  repeat (quiet_step (fail))
  refine wpQuiet_nil ?_
  intro _ hw'
  obtain ⟨⟨dq, osq⟩, hw''⟩ := hw'
  subst hw''
  go_wp2
  go_ret
  exact ⟨rfl, hbel.trans ((below_regrown W dq osq).mono hbel.size)⟩
set_option maxRecDepth 100000 in
theorem case_yes (loc inner : Int) (s : ByteArray) (w : World) (hs : s.size ≤ 1048576) (h : Hid (Has s star)) :
    Calls Try.prog 3 #[.int .i32 loc, .int .u32 inner, .string s] w fun e w' => e = .returned (.bool true) ∧ Below w.heap.size w w' := by
  have hc := fun w => closer_any s w (by omega) true ⟨fun _ => h.out, fun _ => rfl⟩
  have HC := Lib.hid hc
  clear hc
  go_enter Try.func3, Try.ntmps3
  go_wp2_with (go_at_call 4; go_in)
  refine Calls.mono (wrap_yes _ _ _ _ (by omega) h) ?_
  rintro e w1 ⟨rfl, hb1⟩
  have i0 : w1.cell? ⟨w.heap.size + 1, 0, none⟩ = some (.int .u32 0) := Base.cell_below hb1 (by simp <;> omega) (by simp [go_sem])
  have i1 : w1.cell? ⟨w.heap.size + 1, 1, none⟩ = some (.int .u32 inner) := Base.cell_below hb1 (by simp <;> omega) (by simp [go_sem])
  have r0 : w1.cell? ⟨w.heap.size, 0, none⟩ = some (.int .u32 0) := Base.cell_below hb1 (by simp <;> omega) (by simp [go_sem])
  have r1 : w1.cell? ⟨w.heap.size, 1, none⟩ = some (.int .u32 inner) := Base.cell_below hb1 (by simp <;> omega) (by simp [go_sem])
  have hz : w.heap.size + 2 < w1.heap.size := by have := hb1.size; simp at this; omega
  have hbel : Below w.heap.size w w1 := Below.trans (by go_grown) (hb1.mono (by simp <;> omega))
  clear hb1
  go_wp2_with (first | (go_at_call 6; go_in) | (go_at_call 7; refine Calls.mono (HC.out _) ?_; rintro e w' ⟨rfl, rfl⟩))
  refine Calls.mono (ident_yes _ _ _ _ _ (by simp [go_sem, i0]) (by simp [go_sem, i1])) ?_
  rintro e w2 ⟨rfl, hb2⟩
  have hbel2 : Below w.heap.size w w2 := Below.trans (Below.alloc (Below.alloc hbel (by omega) _) (by simp; omega) _) (hb2.mono (by simp; omega))
  clear hb2 hbel
  go_wp2
  go_ret
  exact ⟨rfl, hbel2⟩

set_option maxRecDepth 100000 in
theorem case_no (loc inner : Int) (s : ByteArray) (w : World) (hs : s.size ≤ 1048576) (h : Hid (¬ Has s star)) :
    Calls Try.prog 3 #[.int .i32 loc, .int .u32 inner, .string s] w fun e w' => e = .returned (.bool true) ∧ Below w.heap.size w w' := by
  have hc := fun w => closer_any s w (by omega) false ⟨(fun e => by cases e), fun e => (h.out e).elim⟩
  have HC := Lib.hid hc
  clear hc
  go_enter Try.func3, Try.ntmps3
  go_wp2_with (go_at_call 4; go_in)
  refine Calls.mono (wrap_no _ _ _ _ (by omega) h) ?_
  rintro e w1 ⟨b, rfl, hb1, hlo, hlt, d0, d1, d2⟩
  have i0 : w1.cell? ⟨w.heap.size + 1, 0, none⟩ = some (.int .u32 0) := Base.cell_below hb1 (by simp <;> omega) (by simp [go_sem])
  have i1 : w1.cell? ⟨w.heap.size + 1, 1, none⟩ = some (.int .u32 inner) := Base.cell_below hb1 (by simp <;> omega) (by simp [go_sem])
  have r0 : w1.cell? ⟨w.heap.size, 0, none⟩ = some (.int .u32 0) := Base.cell_below hb1 (by simp <;> omega) (by simp [go_sem])
  have r1 : w1.cell? ⟨w.heap.size, 1, none⟩ = some (.int .u32 inner) := Base.cell_below hb1 (by simp <;> omega) (by simp [go_sem])
  have hz : w.heap.size + 2 < w1.heap.size := by have := hb1.size; simp at this; omega
  have hbel : Below w.heap.size w w1 := Below.trans (by go_grown) (hb1.mono (by simp <;> omega))
  clear hb1 hlo
  go_wp2_with (first | (go_at_call 6; go_in) | (go_at_call 7; refine Calls.mono (HC.out _) ?_; rintro e w' ⟨rfl, rfl⟩))
  generalize hW : World.alloc _ _ = W
  have x0 : W.cell? ⟨w.heap.size + 1, 0, none⟩ = some (.int .u32 0) := by rw [← hW]; simp [go_sem, i0]
  have x1 : W.cell? ⟨w.heap.size + 1, 1, none⟩ = some (.int .u32 inner) := by rw [← hW]; simp [go_sem, i1]
  have k0 := cell_regrown x0
  have k1 := cell_regrown x1
  have k2 := cell_regrown (w := W) (a := ⟨w.heap.size, 0, none⟩) (v := .int .u32 0) (by rw [← hW]; simp [go_sem, r0])
  have k3 := cell_regrown (w := W) (a := ⟨w.heap.size, 1, none⟩) (v := .int .u32 inner) (by rw [← hW]; simp [go_sem, r1])
  have e0 := cell_regrown (w := W) (a := ⟨b, 0, none⟩) (v := .iface 28 (.pointer (some ⟨w.heap.size + 1, 0, none⟩))) (by rw [← hW]; simp [go_sem, d0])
  have e1 := cell_regrown (w := W) (a := ⟨b, 1, none⟩) (v := .int .i32 loc) (by rw [← hW]; simp [go_sem, d1])
  have e2 := cell_regrown (w := W) (a := ⟨b, 2, none⟩) (v := .string s) (by rw [← hW]; simp [go_sem, d2])
  have hbelW : Below w.heap.size w W := by rw [← hW]; exact Below.alloc (Below.alloc hbel (by omega) _) (by simp; omega) _
  clear hW hbel i0 i1 r0 r1 d0 d1 d2
  refine wp_region_quiet_below (by kernel_rfl) (by kernel_rfl) ?_
  repeat (quiet_step (first | (go_at_call 8; exact Calls.regrown_of (ident_yes _ _ _ _ _ (k0 _ _) (k1 _ _)))))
  refine wpQuiet_nil ?_
  intro _ hw'
  obtain ⟨⟨dq, osq⟩, hw''⟩ := hw'
  subst hw''
  go_wp2
  go_ret
  exact ⟨rfl, hbelW.trans ((below_regrown W dq osq).mono hbelW.size)⟩

set_option maxRecDepth 100000 in
theorem case_big (loc inner : Int) (s : ByteArray) (w : World) (hs : 1048576 < s.size) (hm : s.size ≤ 9223372036854775807) :
    Calls Try.prog 3 #[.int .i32 loc, .int .u32 inner, .string s] w fun e w' => e = .returned (.bool true) ∧ Below w.heap.size w w' := by
  go_enter Try.func3, Try.ntmps3
  go_wp2
  all_goals go_ret
  all_goals exact ⟨rfl, by go_grown⟩
theorem case_any (loc inner : Int) (s : ByteArray) (w : World) (hm : s.size ≤ maxLen) :
    Calls Try.prog 3 #[.int .i32 loc, .int .u32 inner, .string s] w fun e w' => e = .returned (.bool true) ∧ Below w.heap.size w w' := by
  unfold maxLen at hm
  by_cases hs : 1048576 < s.size
  · exact case_big loc inner s w hs (by omega)
  · by_cases h : Has s star
    · exact case_yes loc inner s w (by omega) h
    · exact case_no loc inner s w (by omega) h
end Go.Proofs.Ytcnfpoahlhlknab.wrapEnum
