/- What wrapInlinedEnum does for every comment of at most 2^22 bytes: refused exactly where the comment holds the two bytes that close a comment; the searches zzIndex and zzContains by contract. -/
import Derived.Test.YtcnfpoahlhlknabRows
import Derived.Test.YtcnfpoahlhlknabBase
namespace Go.Proofs.Ytcnfpoahlhlknab.wrapEnum
open Go.ChangeShapes Go.WideShapes Go.ChangeAt Go.RowKit
set_option linter.unusedVariables false

/-- 'sub' stands in s at place i. -/
def hit (s sub : ByteArray) (i : Nat) : Bool := (s.extract i (i + sub.size)).toList == sub.toList
/-- 'sub' stands somewhere in s. -/
def Has (s sub : ByteArray) : Prop := ∃ i, i + sub.size ≤ s.size ∧ hit s sub i = true
def Found (s sub : ByteArray) (w : World) (e : Ending) (w' : World) : Prop :=
  ∃ r : Int, e = .returned (.int .i64 r) ∧ w = w' ∧ ((r = -1 ∧ ∀ i, i + sub.size ≤ s.size → hit s sub i = false) ∨ (0 ≤ r ∧ r.toNat + sub.size ≤ s.size ∧ hit s sub r.toNat = true ∧ ∀ i, i < r.toNat → hit s sub i = false))

theorem index_any (s sub : ByteArray) (w : World) (hs : s.size ≤ 4194304) (hb : sub.size ≤ 100) :
    Calls Try.prog 12 #[.string s, .string sub] w (Found s sub w) := by
  go_enter Try.func12, Try.ntmps12
  go_wp2
  go_loop [5] (fun v => ∃ k : Nat, v = .int .i64 k ∧ k ≤ s.size + 1 ∧ Hid (∀ i, i < k → hit s sub i = false)) (fun v => s.size + 1 - (intOf v).toNat)
  case atStart => exact ⟨0, rfl, by omega, fun i hi => absurd hi (Nat.not_lt_zero i)⟩
  case round =>
    obtain ⟨k, rfl, hk, hno⟩ := hrel
    by_cases hlt : k + sub.size ≤ s.size
    · go_wp2
      · have hh : hit s sub k = true := by assumption
        go_ret
        exact ⟨k, rfl, rfl, .inr ⟨by omega, by omega, hh, fun i hi => hno.out i (by omega)⟩⟩
      · have hh : hit s sub k = false := by assumption
        refine ⟨⟨k + 1, by go_num, by omega, fun i hi => ?_⟩, by simp [intOf]; omega⟩
        by_cases e : i = k
        · subst e; exact hh
        · exact hno.out i (by omega)
    · go_wp2
      go_ret
      exact ⟨-1, rfl, rfl, .inl ⟨rfl, fun i hi => hno.out i (by omega)⟩⟩

theorem contains_yes (s sub : ByteArray) (w : World) (hs : s.size ≤ 4194304) (hb : sub.size ≤ 100) (h : Hid (Has s sub)) :
    Calls Try.prog 11 #[.string s, .string sub] w fun e w' => e = .returned (.bool true) ∧ w = w' := by
  go_enter Try.func11, Try.ntmps11
  go_wp2_with fail
  refine (index_any s sub _ hs hb).mono ?_
  rintro e w' ⟨r, rfl, rfl, hr⟩
  have h0 : 0 ≤ r := by
    obtain ⟨i, hi, hh⟩ := h.out
    rcases hr with ⟨_, hno⟩ | ⟨h0, _⟩
    · rw [hno i hi] at hh; cases hh
    · exact h0
  clear hr
  go_wp2
  go_ret
  exact ⟨rfl, rfl⟩

theorem contains_no (s sub : ByteArray) (w : World) (hs : s.size ≤ 4194304) (hb : sub.size ≤ 100) (h : Hid (¬ Has s sub)) :
    Calls Try.prog 11 #[.string s, .string sub] w fun e w' => e = .returned (.bool false) ∧ w = w' := by
  go_enter Try.func11, Try.ntmps11
  go_wp2_with fail
  refine (index_any s sub _ hs hb).mono ?_
  rintro e w' ⟨r, rfl, rfl, hr⟩
  have h0 : r < 0 := by
    rcases hr with ⟨rfl, hno⟩ | ⟨h0, h1, h2, _⟩
    · decide
    · exact (h.out ⟨_, h1, h2⟩).elim
  have h1 : decide (0 ≤ r) = false := by simp; omega
  clear hr
  go_wp2
  go_ret
  exact ⟨rfl, rfl⟩

abbrev star : ByteArray := ⟨#[42, 47]⟩

set_option maxRecDepth 100000 in
theorem wrap_yes (b : Nat) (loc : Int) (s : ByteArray) (w : World) (hs : s.size ≤ 4194304) (h : Hid (Has s star)) :
    Calls Try.prog 5 #[.agg #[.iface 28 (.pointer (some ⟨b, 0, none⟩)), .int .i32 loc], .string s] w
      fun e w' => e = .returned (.agg #[.iface 28 (.pointer (some ⟨b, 0, none⟩)), .int .i32 loc]) ∧ Below w.heap.size w w' := by
  go_enter Try.func5, Try.ntmps5
  go_wp2_with (first | ((with_reducible refine Base.wpList_buildL 163 ?_ ?_); kernel_rfl; simp only [List.map, Act.put, List.setIfInBounds_toArray, List.set_cons_succ, List.set_cons_zero]) | (go_at_call 11; refine (contains_yes _ _ _ hs (by decide) h).mono ?_; rintro e w' ⟨rfl, rfl⟩) | go_in)
  go_returns
  exact ⟨rfl, by go_grown⟩

def WrapNo (d : Value) (loc : Int) (s : ByteArray) (w : World) (e : Ending) (w' : World) : Prop :=
  ∃ b, e = .returned (.agg #[.iface 36 (.pointer (some ⟨b, 0, none⟩)), .int .i32 loc]) ∧ Below w.heap.size w w' ∧ w.heap.size ≤ b ∧ b < w'.heap.size ∧
    w'.cell? ⟨b, 0, none⟩ = some d ∧ w'.cell? ⟨b, 1, none⟩ = some (.int .i32 loc) ∧ w'.cell? ⟨b, 2, none⟩ = some (.string s)
set_option maxRecDepth 100000 in
theorem wrap_no (b : Nat) (loc : Int) (s : ByteArray) (w : World) (hs : s.size ≤ 4194304) (h : Hid (¬ Has s star)) :
    Calls Try.prog 5 #[.agg #[.iface 28 (.pointer (some ⟨b, 0, none⟩)), .int .i32 loc], .string s] w
      (WrapNo (.iface 28 (.pointer (some ⟨b, 0, none⟩))) loc s w) := by
  go_enter Try.func5, Try.ntmps5
  go_wp2_with (first | ((with_reducible refine Base.wpList_buildL 163 ?_ ?_); kernel_rfl; simp only [List.map, Act.put, List.setIfInBounds_toArray, List.set_cons_succ, List.set_cons_zero]) | (go_at_call 11; refine (contains_no _ _ _ hs (by decide) h).mono ?_; rintro e w' ⟨rfl, rfl⟩) | go_in)
  go_returns
  refine ⟨_, rfl, by go_grown, ?_, ?_, ?_, ?_, ?_⟩
  · omega
  · simp
  · simp [go_sem]
  · simp [go_sem]
  · simp [go_sem]

/-! ### Plain facts on texts -/
theorem hit_iff (s sub : ByteArray) (i : Nat) : hit s sub i = true ↔ (s.data.toList.drop i).take sub.size = sub.data.toList := by
  unfold hit
  rw [beq_iff_eq, ByteArray.toList_eq, ByteArray.toList_eq, ByteArray.data_extract, Array.toList_extract]
  simp [List.extract_eq_take_drop]
theorem has_mid (a c b : ByteArray) (h : Has c star) : Has (a ++ c ++ b) star := by
  obtain ⟨i, hi, hh⟩ := h
  rw [hit_iff] at hh
  have e2 : star.size = 2 := rfl
  rw [e2] at hi hh
  refine ⟨a.size + i, ?_, ?_⟩
  · rw [e2]; simp only [ByteArray.size_append]; omega
  · rw [hit_iff, e2]
    have hl : i + 2 ≤ c.data.toList.length := by simpa using hi
    have ha : a.size = a.data.toList.length := by simp
    rw [ByteArray.data_append, ByteArray.data_append, Array.toList_append, Array.toList_append, List.append_assoc, ha, List.drop_append, Nat.add_sub_cancel_left,
      List.drop_eq_nil_of_le (by omega), List.nil_append, List.drop_append_of_le_length (by omega), List.take_append_of_le_length (by rw [List.length_drop]; omega)]
    exact hh
theorem has_star (a b : ByteArray) : Has (a ++ star ++ b) star := has_mid a star b ⟨0, Nat.le_refl _, (hit_iff _ _ _).2 rfl⟩
theorem cell_below {B : Nat} {w w' : World} (h : Below B w w') {p : Addr} {v : Value} (hp : p.block < B) (hv : w.cell? p = some v) : w'.cell? p = some v := by
  rw [h.cell hp]; exact hv
end Go.Proofs.Ytcnfpoahlhlknab.wrapEnum
