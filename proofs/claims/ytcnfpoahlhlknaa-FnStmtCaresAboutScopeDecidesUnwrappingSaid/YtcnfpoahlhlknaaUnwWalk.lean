/- The walk of FnStmtCaresAboutScopeDecidesUnwrapping: for every code, location and export flag the law returns true. One theorem for each of the 26 statement kinds. -/
import Derived.Test.YtcnfpoahlhlknaaRows
import Derived.Test.YtcnfpoahlhlknaaKit
import Derived.WalkKit
import Derived.WalkLawsBesides
import Derived.WalkSpells
import Derived.ProofKit
import Derived.Below
import Derived.Handy
import Derived.Lib.Hide
namespace Go.Proofs.Ytcnfpoahlhlknaa.unw
open Go.ChangeShapes Go.WideShapes Go.ChangeAt Go.RowKit
set_option linter.unusedVariables false

def normK (c : Int) : Int := if c.tmod 26 < 0 then c.tmod 26 + 26 else c.tmod 26
theorem normK_range (c : Int) : 0 ≤ normK c ∧ normK c < 26 := by
  unfold normK
  have h1 := Int.tmod_lt_of_pos c (show (0 : Int) < 26 by omega)
  have h2 : -26 < c.tmod 26 := by
    have := Int.tmod_lt_of_pos (-c) (show (0 : Int) < 26 by omega)
    rw [Int.neg_tmod] at this
    omega
  split <;> omega
theorem norm_any (c : Int) (w : World) (h1 : -128 ≤ c) (h2 : c ≤ 127) :
    Calls Try.prog 6 #[.int .i8 c] w fun e w' => e = .returned (.int .i64 (normK c)) ∧ w = w' := by
  have hr1 := Int.tmod_lt_of_pos c (show (0 : Int) < 26 by omega)
  have hr2 : -26 < c.tmod 26 := by
    have := Int.tmod_lt_of_pos (-c) (show (0 : Int) < 26 by omega)
    rw [Int.neg_tmod] at this
    omega
  by_cases h : c.tmod 26 < 0
  · have HF := Lib.hid (show normK c = c.tmod 26 + 26 by unfold normK; rw [if_pos h])
    go_enter Try.func6, Try.ntmps6
    go_wp2
    go_ret
    rw [HF.out]
    exact ⟨rfl, rfl⟩
  · have HF := Lib.hid (show normK c = c.tmod 26 by unfold normK; rw [if_neg h])
    go_enter Try.func6, Try.ntmps6
    go_wp2
    go_ret
    rw [HF.out]
    exact ⟨rfl, rfl⟩

set_option maxRecDepth 100000 in
theorem law0 (c loc : Int) (x : Bool) (w : World) (hl : -2147483648 ≤ loc) (hl2 : loc < 2147483647)
    (hn : Hid (∀ w, Calls Try.prog 6 #[.int .i8 c] w fun e w' => e = .returned (.int .i64 0) ∧ w = w')) :
    Calls Try.prog 3 #[.int .i8 c, .int .i32 loc, .bool x] w fun e w' => e = .returned (.bool true) ∧ Grown w w' := by
  have h0 : ((loc : Int) == 2147483647) = false := by simp; omega
  go_enter Try.func3, Try.ntmps3
  go_wp2_with (first | (go_at_call 6; refine (hn.out _).mono ?_; rintro e w' ⟨rfl, rfl⟩) | go_in)
  go_ret
  exact ⟨rfl, by go_grown⟩

set_option maxRecDepth 100000 in
theorem law1 (c loc : Int) (x : Bool) (w : World) (hl : -2147483648 ≤ loc) (hl2 : loc < 2147483647)
    (hn : Hid (∀ w, Calls Try.prog 6 #[.int .i8 c] w fun e w' => e = .returned (.int .i64 1) ∧ w = w')) :
    Calls Try.prog 3 #[.int .i8 c, .int .i32 loc, .bool x] w fun e w' => e = .returned (.bool true) ∧ Grown w w' := by
  have h0 : ((loc : Int) == 2147483647) = false := by simp; omega
  go_enter Try.func3, Try.ntmps3
  go_wp2_with (first | (go_at_call 6; refine (hn.out _).mono ?_; rintro e w' ⟨rfl, rfl⟩) | go_in)
  go_ret
  exact ⟨rfl, by go_grown⟩

set_option maxRecDepth 100000 in
theorem law2 (c loc : Int) (x : Bool) (w : World) (hl : -2147483648 ≤ loc) (hl2 : loc < 2147483647)
    (hn : Hid (∀ w, Calls Try.prog 6 #[.int .i8 c] w fun e w' => e = .returned (.int .i64 2) ∧ w = w')) :
    Calls Try.prog 3 #[.int .i8 c, .int .i32 loc, .bool x] w fun e w' => e = .returned (.bool true) ∧ Grown w w' := by
  have h0 : ((loc : Int) == 2147483647) = false := by simp; omega
  go_enter Try.func3, Try.ntmps3
  go_wp2_with (first | (go_at_call 6; refine (hn.out _).mono ?_; rintro e w' ⟨rfl, rfl⟩) | go_in)
  go_ret
  exact ⟨rfl, by go_grown⟩

set_option maxRecDepth 100000 in
theorem law3 (c loc : Int) (x : Bool) (w : World) (hl : -2147483648 ≤ loc) (hl2 : loc < 2147483647)
    (hn : Hid (∀ w, Calls Try.prog 6 #[.int .i8 c] w fun e w' => e = .returned (.int .i64 3) ∧ w = w')) :
    Calls Try.prog 3 #[.int .i8 c, .int .i32 loc, .bool x] w fun e w' => e = .returned (.bool true) ∧ Grown w w' := by
  have h0 : ((loc : Int) == 2147483647) = false := by simp; omega
  go_enter Try.func3, Try.ntmps3
  go_wp2_with (first | (go_at_call 6; refine (hn.out _).mono ?_; rintro e w' ⟨rfl, rfl⟩) | go_in)
  go_ret
  exact ⟨rfl, by go_grown⟩

set_option maxRecDepth 100000 in
theorem law4 (c loc : Int) (x : Bool) (w : World) (hl : -2147483648 ≤ loc) (hl2 : loc < 2147483647)
    (hn : Hid (∀ w, Calls Try.prog 6 #[.int .i8 c] w fun e w' => e = .returned (.int .i64 4) ∧ w = w')) :
    Calls Try.prog 3 #[.int .i8 c, .int .i32 loc, .bool x] w fun e w' => e = .returned (.bool true) ∧ Grown w w' := by
  have h0 : ((loc : Int) == 2147483647) = false := by simp; omega
  go_enter Try.func3, Try.ntmps3
  go_wp2_with (first | (go_at_call 6; refine (hn.out _).mono ?_; rintro e w' ⟨rfl, rfl⟩) | go_in)
  go_ret
  exact ⟨rfl, by go_grown⟩

set_option maxRecDepth 100000 in
theorem law5 (c loc : Int) (x : Bool) (w : World) (hl : -2147483648 ≤ loc) (hl2 : loc < 2147483647)
    (hn : Hid (∀ w, Calls Try.prog 6 #[.int .i8 c] w fun e w' => e = .returned (.int .i64 5) ∧ w = w')) :
    Calls Try.prog 3 #[.int .i8 c, .int .i32 loc, .bool x] w fun e w' => e = .returned (.bool true) ∧ Grown w w' := by
  have h0 : ((loc : Int) == 2147483647) = false := by simp; omega
  go_enter Try.func3, Try.ntmps3
  go_wp2_with (first | (go_at_call 6; refine (hn.out _).mono ?_; rintro e w' ⟨rfl, rfl⟩) | go_in)
  go_ret
  exact ⟨rfl, by go_grown⟩

set_option maxRecDepth 100000 in
theorem law6 (c loc : Int) (x : Bool) (w : World) (hl : -2147483648 ≤ loc) (hl2 : loc < 2147483647)
    (hn : Hid (∀ w, Calls Try.prog 6 #[.int .i8 c] w fun e w' => e = .returned (.int .i64 6) ∧ w = w')) :
    Calls Try.prog 3 #[.int .i8 c, .int .i32 loc, .bool x] w fun e w' => e = .returned (.bool true) ∧ Grown w w' := by
  have h0 : ((loc : Int) == 2147483647) = false := by simp; omega
  go_enter Try.func3, Try.ntmps3
  go_wp2_with (first | (go_at_call 6; refine (hn.out _).mono ?_; rintro e w' ⟨rfl, rfl⟩) | go_in)
  go_ret
  exact ⟨rfl, by go_grown⟩

set_option maxRecDepth 100000 in
theorem law7 (c loc : Int) (x : Bool) (w : World) (hl : -2147483648 ≤ loc) (hl2 : loc < 2147483647)
    (hn : Hid (∀ w, Calls Try.prog 6 #[.int .i8 c] w fun e w' => e = .returned (.int .i64 7) ∧ w = w')) :
    Calls Try.prog 3 #[.int .i8 c, .int .i32 loc, .bool x] w fun e w' => e = .returned (.bool true) ∧ Grown w w' := by
  have h0 : ((loc : Int) == 2147483647) = false := by simp; omega
  go_enter Try.func3, Try.ntmps3
  go_wp2_with (first | (go_at_call 6; refine (hn.out _).mono ?_; rintro e w' ⟨rfl, rfl⟩) | go_in)
  go_ret
  exact ⟨rfl, by go_grown⟩

set_option maxRecDepth 100000 in
theorem law8 (c loc : Int) (x : Bool) (w : World) (hl : -2147483648 ≤ loc) (hl2 : loc < 2147483647)
    (hn : Hid (∀ w, Calls Try.prog 6 #[.int .i8 c] w fun e w' => e = .returned (.int .i64 8) ∧ w = w')) :
    Calls Try.prog 3 #[.int .i8 c, .int .i32 loc, .bool x] w fun e w' => e = .returned (.bool true) ∧ Grown w w' := by
  have h0 : ((loc : Int) == 2147483647) = false := by simp; omega
  go_enter Try.func3, Try.ntmps3
  go_wp2_with (first | (go_at_call 6; refine (hn.out _).mono ?_; rintro e w' ⟨rfl, rfl⟩) | go_in)
  go_ret
  exact ⟨rfl, by go_grown⟩

set_option maxRecDepth 100000 in
theorem law9 (c loc : Int) (x : Bool) (w : World) (hl : -2147483648 ≤ loc) (hl2 : loc < 2147483647)
    (hn : Hid (∀ w, Calls Try.prog 6 #[.int .i8 c] w fun e w' => e = .returned (.int .i64 9) ∧ w = w')) :
    Calls Try.prog 3 #[.int .i8 c, .int .i32 loc, .bool x] w fun e w' => e = .returned (.bool true) ∧ Grown w w' := by
  have h0 : ((loc : Int) == 2147483647) = false := by simp; omega
  go_enter Try.func3, Try.ntmps3
  go_wp2_with (first | (go_at_call 6; refine (hn.out _).mono ?_; rintro e w' ⟨rfl, rfl⟩) | go_in)
  go_ret
  exact ⟨rfl, by go_grown⟩

set_option maxRecDepth 100000 in
theorem law10 (c loc : Int) (x : Bool) (w : World) (hl : -2147483648 ≤ loc) (hl2 : loc < 2147483647)
    (hn : Hid (∀ w, Calls Try.prog 6 #[.int .i8 c] w fun e w' => e = .returned (.int .i64 10) ∧ w = w')) :
    Calls Try.prog 3 #[.int .i8 c, .int .i32 loc, .bool x] w fun e w' => e = .returned (.bool true) ∧ Grown w w' := by
  have h0 : ((loc : Int) == 2147483647) = false := by simp; omega
  go_enter Try.func3, Try.ntmps3
  go_wp2_with (first | (go_at_call 6; refine (hn.out _).mono ?_; rintro e w' ⟨rfl, rfl⟩) | go_in)
  go_ret
  exact ⟨rfl, by go_grown⟩

set_option maxRecDepth 100000 in
theorem law11 (c loc : Int) (x : Bool) (w : World) (hl : -2147483648 ≤ loc) (hl2 : loc < 2147483647)
    (hn : Hid (∀ w, Calls Try.prog 6 #[.int .i8 c] w fun e w' => e = .returned (.int .i64 11) ∧ w = w')) :
    Calls Try.prog 3 #[.int .i8 c, .int .i32 loc, .bool x] w fun e w' => e = .returned (.bool true) ∧ Grown w w' := by
  have h0 : ((loc : Int) == 2147483647) = false := by simp; omega
  go_enter Try.func3, Try.ntmps3
  go_wp2_with (first | (go_at_call 6; refine (hn.out _).mono ?_; rintro e w' ⟨rfl, rfl⟩) | go_in)
  go_ret
  exact ⟨rfl, by go_grown⟩

set_option maxRecDepth 100000 in
theorem law12 (c loc : Int) (x : Bool) (w : World) (hl : -2147483648 ≤ loc) (hl2 : loc < 2147483647)
    (hn : Hid (∀ w, Calls Try.prog 6 #[.int .i8 c] w fun e w' => e = .returned (.int .i64 12) ∧ w = w')) :
    Calls Try.prog 3 #[.int .i8 c, .int .i32 loc, .bool x] w fun e w' => e = .returned (.bool true) ∧ Grown w w' := by
  have h0 : ((loc : Int) == 2147483647) = false := by simp; omega
  go_enter Try.func3, Try.ntmps3
  go_wp2_with (first | (go_at_call 6; refine (hn.out _).mono ?_; rintro e w' ⟨rfl, rfl⟩) | go_in)
  go_ret
  exact ⟨rfl, by go_grown⟩

set_option maxRecDepth 100000 in
theorem law13 (c loc : Int) (x : Bool) (w : World) (hl : -2147483648 ≤ loc) (hl2 : loc < 2147483647)
    (hn : Hid (∀ w, Calls Try.prog 6 #[.int .i8 c] w fun e w' => e = .returned (.int .i64 13) ∧ w = w')) :
    Calls Try.prog 3 #[.int .i8 c, .int .i32 loc, .bool x] w fun e w' => e = .returned (.bool true) ∧ Grown w w' := by
  have h0 : ((loc : Int) == 2147483647) = false := by simp; omega
  go_enter Try.func3, Try.ntmps3
  go_wp2_with (first | (go_at_call 6; refine (hn.out _).mono ?_; rintro e w' ⟨rfl, rfl⟩) | go_in)
  go_ret
  exact ⟨rfl, by go_grown⟩

set_option maxRecDepth 100000 in
theorem law14 (c loc : Int) (x : Bool) (w : World) (hl : -2147483648 ≤ loc) (hl2 : loc < 2147483647)
    (hn : Hid (∀ w, Calls Try.prog 6 #[.int .i8 c] w fun e w' => e = .returned (.int .i64 14) ∧ w = w')) :
    Calls Try.prog 3 #[.int .i8 c, .int .i32 loc, .bool x] w fun e w' => e = .returned (.bool true) ∧ Grown w w' := by
  have h0 : ((loc : Int) == 2147483647) = false := by simp; omega
  go_enter Try.func3, Try.ntmps3
  go_wp2_with (first | (go_at_call 6; refine (hn.out _).mono ?_; rintro e w' ⟨rfl, rfl⟩) | go_in)
  go_ret
  exact ⟨rfl, by go_grown⟩

set_option maxRecDepth 100000 in
theorem law15 (c loc : Int) (x : Bool) (w : World) (hl : -2147483648 ≤ loc) (hl2 : loc < 2147483647)
    (hn : Hid (∀ w, Calls Try.prog 6 #[.int .i8 c] w fun e w' => e = .returned (.int .i64 15) ∧ w = w')) :
    Calls Try.prog 3 #[.int .i8 c, .int .i32 loc, .bool x] w fun e w' => e = .returned (.bool true) ∧ Grown w w' := by
  have h0 : ((loc : Int) == 2147483647) = false := by simp; omega
  go_enter Try.func3, Try.ntmps3
  go_wp2_with (first | (go_at_call 6; refine (hn.out _).mono ?_; rintro e w' ⟨rfl, rfl⟩) | go_in)
  go_ret
  exact ⟨rfl, by go_grown⟩

set_option maxRecDepth 100000 in
theorem law16 (c loc : Int) (x : Bool) (w : World) (hl : -2147483648 ≤ loc) (hl2 : loc < 2147483647)
    (hn : Hid (∀ w, Calls Try.prog 6 #[.int .i8 c] w fun e w' => e = .returned (.int .i64 16) ∧ w = w')) :
    Calls Try.prog 3 #[.int .i8 c, .int .i32 loc, .bool x] w fun e w' => e = .returned (.bool true) ∧ Grown w w' := by
  have h0 : ((loc : Int) == 2147483647) = false := by simp; omega
  go_enter Try.func3, Try.ntmps3
  go_wp2_with (first | (go_at_call 6; refine (hn.out _).mono ?_; rintro e w' ⟨rfl, rfl⟩) | go_in)
  go_ret
  exact ⟨rfl, by go_grown⟩

set_option maxRecDepth 100000 in
theorem law17 (c loc : Int) (x : Bool) (w : World) (hl : -2147483648 ≤ loc) (hl2 : loc < 2147483647)
    (hn : Hid (∀ w, Calls Try.prog 6 #[.int .i8 c] w fun e w' => e = .returned (.int .i64 17) ∧ w = w')) :
    Calls Try.prog 3 #[.int .i8 c, .int .i32 loc, .bool x] w fun e w' => e = .returned (.bool true) ∧ Grown w w' := by
  have h0 : ((loc : Int) == 2147483647) = false := by simp; omega
  go_enter Try.func3, Try.ntmps3
  go_wp2_with (first | (go_at_call 6; refine (hn.out _).mono ?_; rintro e w' ⟨rfl, rfl⟩) | go_in)
  go_ret
  exact ⟨rfl, by go_grown⟩

set_option maxRecDepth 100000 in
theorem law18 (c loc : Int) (x : Bool) (w : World) (hl : -2147483648 ≤ loc) (hl2 : loc < 2147483647)
    (hn : Hid (∀ w, Calls Try.prog 6 #[.int .i8 c] w fun e w' => e = .returned (.int .i64 18) ∧ w = w')) :
    Calls Try.prog 3 #[.int .i8 c, .int .i32 loc, .bool x] w fun e w' => e = .returned (.bool true) ∧ Grown w w' := by
  have h0 : ((loc : Int) == 2147483647) = false := by simp; omega
  go_enter Try.func3, Try.ntmps3
  go_wp2_with (first | (go_at_call 6; refine (hn.out _).mono ?_; rintro e w' ⟨rfl, rfl⟩) | go_in)
  go_ret
  exact ⟨rfl, by go_grown⟩

set_option maxRecDepth 100000 in
theorem law19 (c loc : Int) (x : Bool) (w : World) (hl : -2147483648 ≤ loc) (hl2 : loc < 2147483647)
    (hn : Hid (∀ w, Calls Try.prog 6 #[.int .i8 c] w fun e w' => e = .returned (.int .i64 19) ∧ w = w')) :
    Calls Try.prog 3 #[.int .i8 c, .int .i32 loc, .bool x] w fun e w' => e = .returned (.bool true) ∧ Grown w w' := by
  have h0 : ((loc : Int) == 2147483647) = false := by simp; omega
  go_enter Try.func3, Try.ntmps3
  go_wp2_with (first | (go_at_call 6; refine (hn.out _).mono ?_; rintro e w' ⟨rfl, rfl⟩) | go_in)
  go_ret
  exact ⟨rfl, by go_grown⟩

set_option maxRecDepth 100000 in
theorem law20 (c loc : Int) (x : Bool) (w : World) (hl : -2147483648 ≤ loc) (hl2 : loc < 2147483647)
    (hn : Hid (∀ w, Calls Try.prog 6 #[.int .i8 c] w fun e w' => e = .returned (.int .i64 20) ∧ w = w')) :
    Calls Try.prog 3 #[.int .i8 c, .int .i32 loc, .bool x] w fun e w' => e = .returned (.bool true) ∧ Grown w w' := by
  have h0 : ((loc : Int) == 2147483647) = false := by simp; omega
  go_enter Try.func3, Try.ntmps3
  go_wp2_with (first | (go_at_call 6; refine (hn.out _).mono ?_; rintro e w' ⟨rfl, rfl⟩) | go_in)
  go_ret
  exact ⟨rfl, by go_grown⟩

set_option maxRecDepth 100000 in
theorem law21 (c loc : Int) (x : Bool) (w : World) (hl : -2147483648 ≤ loc) (hl2 : loc < 2147483647)
    (hn : Hid (∀ w, Calls Try.prog 6 #[.int .i8 c] w fun e w' => e = .returned (.int .i64 21) ∧ w = w')) :
    Calls Try.prog 3 #[.int .i8 c, .int .i32 loc, .bool x] w fun e w' => e = .returned (.bool true) ∧ Grown w w' := by
  have h0 : ((loc : Int) == 2147483647) = false := by simp; omega
  go_enter Try.func3, Try.ntmps3
  go_wp2_with (first | (go_at_call 6; refine (hn.out _).mono ?_; rintro e w' ⟨rfl, rfl⟩) | go_in)
  go_ret
  exact ⟨rfl, by go_grown⟩

set_option maxRecDepth 100000 in
theorem law22 (c loc : Int) (x : Bool) (w : World) (hl : -2147483648 ≤ loc) (hl2 : loc < 2147483647)
    (hn : Hid (∀ w, Calls Try.prog 6 #[.int .i8 c] w fun e w' => e = .returned (.int .i64 22) ∧ w = w')) :
    Calls Try.prog 3 #[.int .i8 c, .int .i32 loc, .bool x] w fun e w' => e = .returned (.bool true) ∧ Grown w w' := by
  have h0 : ((loc : Int) == 2147483647) = false := by simp; omega
  go_enter Try.func3, Try.ntmps3
  go_wp2_with (first | (go_at_call 6; refine (hn.out _).mono ?_; rintro e w' ⟨rfl, rfl⟩) | go_in)
  go_ret
  exact ⟨rfl, by go_grown⟩

set_option maxRecDepth 100000 in
theorem law23 (c loc : Int) (x : Bool) (w : World) (hl : -2147483648 ≤ loc) (hl2 : loc < 2147483647)
    (hn : Hid (∀ w, Calls Try.prog 6 #[.int .i8 c] w fun e w' => e = .returned (.int .i64 23) ∧ w = w')) :
    Calls Try.prog 3 #[.int .i8 c, .int .i32 loc, .bool x] w fun e w' => e = .returned (.bool true) ∧ Grown w w' := by
  have h0 : ((loc : Int) == 2147483647) = false := by simp; omega
  go_enter Try.func3, Try.ntmps3
  go_wp2_with (first | (go_at_call 6; refine (hn.out _).mono ?_; rintro e w' ⟨rfl, rfl⟩) | go_in)
  go_ret
  exact ⟨rfl, by go_grown⟩

set_option maxRecDepth 100000 in
theorem law24 (c loc : Int) (x : Bool) (w : World) (hl : -2147483648 ≤ loc) (hl2 : loc < 2147483647)
    (hn : Hid (∀ w, Calls Try.prog 6 #[.int .i8 c] w fun e w' => e = .returned (.int .i64 24) ∧ w = w')) :
    Calls Try.prog 3 #[.int .i8 c, .int .i32 loc, .bool x] w fun e w' => e = .returned (.bool true) ∧ Grown w w' := by
  have h0 : ((loc : Int) == 2147483647) = false := by simp; omega
  go_enter Try.func3, Try.ntmps3
  go_wp2_with (first | (go_at_call 6; refine (hn.out _).mono ?_; rintro e w' ⟨rfl, rfl⟩) | go_in)
  go_ret
  exact ⟨rfl, by go_grown⟩

set_option maxRecDepth 100000 in
theorem law25 (c loc : Int) (x : Bool) (w : World) (hl : -2147483648 ≤ loc) (hl2 : loc < 2147483647)
    (hn : Hid (∀ w, Calls Try.prog 6 #[.int .i8 c] w fun e w' => e = .returned (.int .i64 25) ∧ w = w')) :
    Calls Try.prog 3 #[.int .i8 c, .int .i32 loc, .bool x] w fun e w' => e = .returned (.bool true) ∧ Grown w w' := by
  have h0 : ((loc : Int) == 2147483647) = false := by simp; omega
  go_enter Try.func3, Try.ntmps3
  go_wp2_with (first | (go_at_call 6; refine (hn.out _).mono ?_; rintro e w' ⟨rfl, rfl⟩) | go_in)
  go_ret
  exact ⟨rfl, by go_grown⟩

theorem lawMax (c : Int) (x : Bool) (w : World) :
    Calls Try.prog 3 #[.int .i8 c, .int .i32 2147483647, .bool x] w fun e w' => e = .returned (.bool true) ∧ Grown w w' := by
  go_enter Try.func3, Try.ntmps3
  go_wp2
  go_ret
  exact ⟨rfl, by go_grown⟩

theorem law_any (c loc : Int) (x : Bool) (w : World) (h1 : -128 ≤ c) (h2 : c ≤ 127) (hl : -2147483648 ≤ loc) (hl2 : loc ≤ 2147483647) :
    Calls Try.prog 3 #[.int .i8 c, .int .i32 loc, .bool x] w fun e w' => e = .returned (.bool true) ∧ Grown w w' := by
  by_cases hm : loc = 2147483647
  · subst hm; exact lawMax c x w
  have hn : Hid (∀ w, Calls Try.prog 6 #[.int .i8 c] w fun e w' => e = .returned (.int .i64 (normK c)) ∧ w = w') := fun w => norm_any c w h1 h2
  have hr := normK_range c
  generalize normK c = k at hn hr
  obtain rfl | rfl | rfl | rfl | rfl | rfl | rfl | rfl | rfl | rfl | rfl | rfl | rfl | rfl | rfl | rfl | rfl | rfl | rfl | rfl | rfl | rfl | rfl | rfl | rfl | rfl : k = 0 ∨ k = 1 ∨ k = 2 ∨ k = 3 ∨ k = 4 ∨ k = 5 ∨ k = 6 ∨ k = 7 ∨ k = 8 ∨ k = 9 ∨ k = 10 ∨ k = 11 ∨ k = 12 ∨ k = 13 ∨ k = 14 ∨ k = 15 ∨ k = 16 ∨ k = 17 ∨ k = 18 ∨ k = 19 ∨ k = 20 ∨ k = 21 ∨ k = 22 ∨ k = 23 ∨ k = 24 ∨ k = 25 := by omega
  · exact law0 c loc x w hl (by omega) hn
  · exact law1 c loc x w hl (by omega) hn
  · exact law2 c loc x w hl (by omega) hn
  · exact law3 c loc x w hl (by omega) hn
  · exact law4 c loc x w hl (by omega) hn
  · exact law5 c loc x w hl (by omega) hn
  · exact law6 c loc x w hl (by omega) hn
  · exact law7 c loc x w hl (by omega) hn
  · exact law8 c loc x w hl (by omega) hn
  · exact law9 c loc x w hl (by omega) hn
  · exact law10 c loc x w hl (by omega) hn
  · exact law11 c loc x w hl (by omega) hn
  · exact law12 c loc x w hl (by omega) hn
  · exact law13 c loc x w hl (by omega) hn
  · exact law14 c loc x w hl (by omega) hn
  · exact law15 c loc x w hl (by omega) hn
  · exact law16 c loc x w hl (by omega) hn
  · exact law17 c loc x w hl (by omega) hn
  · exact law18 c loc x w hl (by omega) hn
  · exact law19 c loc x w hl (by omega) hn
  · exact law20 c loc x w hl (by omega) hn
  · exact law21 c loc x w hl (by omega) hn
  · exact law22 c loc x w hl (by omega) hn
  · exact law23 c loc x w hl (by omega) hn
  · exact law24 c loc x w hl (by omega) hn
  · exact law25 c loc x w hl (by omega) hn
end Go.Proofs.Ytcnfpoahlhlknaa.unw
