/- The walk of FnWrapInlinedEnumRefusalSurvivesExtension: true for all texts and locations. -/
import Derived.Test.YtcnfpoahlhlknaaWrapWalk
namespace Go.Proofs.Ytcnfpoahlhlknaa.wrapEnum
open Go.ChangeShapes Go.WideShapes Go.ChangeAt Go.RowKit
set_option linter.unusedVariables false

set_option maxRecDepth 100000 in
theorem law_big (a c b : ByteArray) (loc : Int) (w : World) (ha : a.size ≤ 9223372036854775807) (hc : c.size ≤ 9223372036854775807) (hb : b.size ≤ 9223372036854775807)
   (h : 262144 < a.size ∨ 262144 < c.size ∨ 262144 < b.size) :
    Calls Try.prog 5 #[.string a, .string c, .string b, .int .i32 loc] w fun e w' => e = .returned (.bool true) ∧ Below w.heap.size w w' := by
  rcases h with h | h | h
  · go_enter Try.func5, Try.ntmps5
    go_wp2
    all_goals go_ret
    all_goals exact ⟨rfl, by go_grown⟩
  · go_enter Try.func5, Try.ntmps5
    go_wp2
    all_goals go_ret
    all_goals exact ⟨rfl, by go_grown⟩
  · go_enter Try.func5, Try.ntmps5
    go_wp2
    all_goals go_ret
    all_goals exact ⟨rfl, by go_grown⟩

set_option maxRecDepth 100000 in
theorem law_yes (a c b : ByteArray) (loc : Int) (w : World) (ha : a.size ≤ 262144) (hc : c.size ≤ 262144) (hb : b.size ≤ 262144) (h : Hid (Has c star)) :
    Calls Try.prog 5 #[.string a, .string c, .string b, .int .i32 loc] w fun e w' => e = .returned (.bool true) ∧ Below w.heap.size w w' := by
  have h2 : Hid (Has (a ++ c ++ b) star) := has_mid a c b h.out
  have h3 : Hid (Has (a ++ star ++ b) star) := has_star a b
  have s2 : (a ++ c ++ b).size ≤ 4194304 := by simp only [ByteArray.size_append]; omega
  have s3 : (a ++ star ++ b).size ≤ 4194304 := by simp only [ByteArray.size_append]; show a.size + 2 + b.size ≤ _; omega
  have S2 := Lib.hid s2
  have S3 := Lib.hid s3
  clear s2 s3
  go_enter Try.func5, Try.ntmps5
  go_wp2_with (first | (go_at_call 16; go_in))
  refine (wrap_yes _ _ _ _ (by omega) h).mono ?_
  rintro e w1 ⟨rfl, hb1⟩
  have c0 : w1.cell? ⟨w.heap.size + 1, 0, none⟩ = some (.iface 44 (.pointer (some ⟨w.heap.size, 0, none⟩))) := cell_below hb1 (by simp) (by simp [go_sem])
  have c1 : w1.cell? ⟨w.heap.size + 1, 1, none⟩ = some (.int .i32 loc) := cell_below hb1 (by simp) (by simp [go_sem])
  have hz : w.heap.size + 1 < w1.heap.size := by have := hb1.size; simp at this; omega
  have hbel : Below w.heap.size w w1 := Below.trans (by go_grown) (hb1.mono (by simp; omega))
  clear hb1
  go_wp2_with (go_at_call 17; go_in)
  refine (wrap_yes _ _ _ _ S2.out h2).mono ?_
  rintro e w2 ⟨rfl, hb2⟩
  have d0 : w2.cell? ⟨w.heap.size + 1, 0, none⟩ = some (.iface 44 (.pointer (some ⟨w.heap.size, 0, none⟩))) := cell_below hb2 (by simp; omega) (by simp [go_sem, c0, hz])
  have d1 : w2.cell? ⟨w.heap.size + 1, 1, none⟩ = some (.int .i32 loc) := cell_below hb2 (by simp; omega) (by simp [go_sem, c1, hz])
  have hz2 : w.heap.size + 1 < w2.heap.size := by have := hb2.size; simp at this; omega
  have hbel2 : Below w.heap.size w w2 := Below.trans (Below.alloc hbel (by omega) _) (hb2.mono (by simp; omega))
  clear hb2 hbel c0 c1
  go_wp2_with (go_at_call 17; go_in)
  refine (wrap_yes _ _ _ _ S3.out h3).mono ?_
  rintro e w3 ⟨rfl, hb3⟩
  have hz3 : w.heap.size + 1 < w3.heap.size := by have := hb3.size; simp at this; omega
  have hbel3 : Below w.heap.size w w3 := Below.trans (Below.alloc hbel2 (by omega) _) (hb3.mono (by simp; omega))
  clear hb3 hbel2 d0 d1
  go_wp2_with (go_at_call 17; go_in)
  go_ret
  exact ⟨rfl, Below.alloc hbel3 (by omega) _⟩

set_option maxRecDepth 100000 in
theorem law_no_yes (a c b : ByteArray) (loc : Int) (w : World) (ha : a.size ≤ 262144) (hc : c.size ≤ 262144) (hb : b.size ≤ 262144) (h : Hid (¬ Has c star)) (h2 : Hid (Has (a ++ c ++ b) star)) :
    Calls Try.prog 5 #[.string a, .string c, .string b, .int .i32 loc] w fun e w' => e = .returned (.bool true) ∧ Below w.heap.size w w' := by
  have h3 : Hid (Has (a ++ star ++ b) star) := has_star a b
  have s2 : (a ++ c ++ b).size ≤ 4194304 := by simp only [ByteArray.size_append]; omega
  have s3 : (a ++ star ++ b).size ≤ 4194304 := by simp only [ByteArray.size_append]; show a.size + 2 + b.size ≤ _; omega
  have S2 := Lib.hid s2
  have S3 := Lib.hid s3
  clear s2 s3
  go_enter Try.func5, Try.ntmps5
  go_wp2_with (first | (go_at_call 16; go_in))
  refine (wrap_no _ _ _ _ (by omega) h).mono ?_
  rintro e w1 ⟨b1, rfl, hb1, -, -, -, -, -⟩
  have c0 : w1.cell? ⟨w.heap.size + 1, 0, none⟩ = some (.iface 44 (.pointer (some ⟨w.heap.size, 0, none⟩))) := cell_below hb1 (by simp) (by simp [go_sem])
  have c1 : w1.cell? ⟨w.heap.size + 1, 1, none⟩ = some (.int .i32 loc) := cell_below hb1 (by simp) (by simp [go_sem])
  have hz : w.heap.size + 1 < w1.heap.size := by have := hb1.size; simp at this; omega
  have hbel : Below w.heap.size w w1 := Below.trans (by go_grown) (hb1.mono (by simp; omega))
  clear hb1
  go_wp2_with (go_at_call 17; go_in)
  refine (wrap_yes _ _ _ _ S2.out h2).mono ?_
  rintro e w2 ⟨rfl, hb2⟩
  have d0 : w2.cell? ⟨w.heap.size + 1, 0, none⟩ = some (.iface 44 (.pointer (some ⟨w.heap.size, 0, none⟩))) := cell_below hb2 (by simp; omega) (by simp [go_sem, c0, hz])
  have d1 : w2.cell? ⟨w.heap.size + 1, 1, none⟩ = some (.int .i32 loc) := cell_below hb2 (by simp; omega) (by simp [go_sem, c1, hz])
  have hz2 : w.heap.size + 1 < w2.heap.size := by have := hb2.size; simp at this; omega
  have hbel2 : Below w.heap.size w w2 := Below.trans (Below.alloc hbel (by omega) _) (hb2.mono (by simp; omega))
  clear hb2 hbel c0 c1
  go_wp2_with (go_at_call 17; go_in)
  refine (wrap_yes _ _ _ _ S3.out h3).mono ?_
  rintro e w3 ⟨rfl, hb3⟩
  have hz3 : w.heap.size + 1 < w3.heap.size := by have := hb3.size; simp at this; omega
  have hbel3 : Below w.heap.size w w3 := Below.trans (Below.alloc hbel2 (by omega) _) (hb3.mono (by simp; omega))
  clear hb3 hbel2 d0 d1
  go_wp2_with (go_at_call 17; go_in)
  go_ret
  exact ⟨rfl, Below.alloc hbel3 (by omega) _⟩

set_option maxRecDepth 100000 in
theorem law_no_no (a c b : ByteArray) (loc : Int) (w : World) (ha : a.size ≤ 262144) (hc : c.size ≤ 262144) (hb : b.size ≤ 262144) (h : Hid (¬ Has c star)) (h2 : Hid (¬ Has (a ++ c ++ b) star)) :
    Calls Try.prog 5 #[.string a, .string c, .string b, .int .i32 loc] w fun e w' => e = .returned (.bool true) ∧ Below w.heap.size w w' := by
  have h3 : Hid (Has (a ++ star ++ b) star) := has_star a b
  have s2 : (a ++ c ++ b).size ≤ 4194304 := by simp only [ByteArray.size_append]; omega
  have s3 : (a ++ star ++ b).size ≤ 4194304 := by simp only [ByteArray.size_append]; show a.size + 2 + b.size ≤ _; omega
  have S2 := Lib.hid s2
  have S3 := Lib.hid s3
  clear s2 s3
  go_enter Try.func5, Try.ntmps5
  go_wp2_with (first | (go_at_call 16; go_in))
  refine (wrap_no _ _ _ _ (by omega) h).mono ?_
  rintro e w1 ⟨b1, rfl, hb1, -, -, -, -, -⟩
  have c0 : w1.cell? ⟨w.heap.size + 1, 0, none⟩ = some (.iface 44 (.pointer (some ⟨w.heap.size, 0, none⟩))) := cell_below hb1 (by simp) (by simp [go_sem])
  have c1 : w1.cell? ⟨w.heap.size + 1, 1, none⟩ = some (.int .i32 loc) := cell_below hb1 (by simp) (by simp [go_sem])
  have hz : w.heap.size + 1 < w1.heap.size := by have := hb1.size; simp at this; omega
  have hbel : Below w.heap.size w w1 := Below.trans (by go_grown) (hb1.mono (by simp; omega))
  clear hb1
  go_wp2_with (go_at_call 17; go_in)
  refine (wrap_no _ _ _ _ S2.out h2).mono ?_
  rintro e w2 ⟨b2, rfl, hb2, -, -, -, -, -⟩
  have d0 : w2.cell? ⟨w.heap.size + 1, 0, none⟩ = some (.iface 44 (.pointer (some ⟨w.heap.size, 0, none⟩))) := cell_below hb2 (by simp; omega) (by simp [go_sem, c0, hz])
  have d1 : w2.cell? ⟨w.heap.size + 1, 1, none⟩ = some (.int .i32 loc) := cell_below hb2 (by simp; omega) (by simp [go_sem, c1, hz])
  have hz2 : w.heap.size + 1 < w2.heap.size := by have := hb2.size; simp at this; omega
  have hbel2 : Below w.heap.size w w2 := Below.trans (Below.alloc hbel (by omega) _) (hb2.mono (by simp; omega))
  clear hb2 hbel c0 c1
  go_wp2_with (go_at_call 17; go_in)
  refine (wrap_yes _ _ _ _ S3.out h3).mono ?_
  rintro e w3 ⟨rfl, hb3⟩
  have hz3 : w.heap.size + 1 < w3.heap.size := by have := hb3.size; simp at this; omega
  have hbel3 : Below w.heap.size w w3 := Below.trans (Below.alloc hbel2 (by omega) _) (hb3.mono (by simp; omega))
  clear hb3 hbel2 d0 d1
  go_wp2_with (go_at_call 17; go_in)
  go_ret
  exact ⟨rfl, Below.alloc hbel3 (by omega) _⟩

theorem law_any (a c b : ByteArray) (loc : Int) (w : World) (ha : a.size ≤ maxLen) (hc : c.size ≤ maxLen) (hb : b.size ≤ maxLen) :
    Calls Try.prog 5 #[.string a, .string c, .string b, .int .i32 loc] w fun e w' => e = .returned (.bool true) ∧ Below w.heap.size w w' := by
  unfold maxLen at ha hc hb
  by_cases h : 262144 < a.size ∨ 262144 < c.size ∨ 262144 < b.size
  · exact law_big a c b loc w (by omega) (by omega) (by omega) h
  · by_cases h1 : Has c star
    · exact law_yes a c b loc w (by omega) (by omega) (by omega) h1
    · by_cases h2 : Has (a ++ c ++ b) star
      · exact law_no_yes a c b loc w (by omega) (by omega) (by omega) h1 h2
      · exact law_no_no a c b loc w (by omega) (by omega) (by omega) h1 h2
end Go.Proofs.Ytcnfpoahlhlknaa.wrapEnum
