/- Row 41's states. No condition. -/
import Derived.Test.YtkmojepgbbdeiaaDoorSt
namespace Go.Proofs.YtkmojepgbbdeiaaDoor.Use
open Go.ChangeShapes Go.WideShapes Go.ChangeAt Go.RowKit Go.Sort Own
set_option linter.unusedVariables false
/-- The cells that the marked places give: those r under j where B r is c. -/
def sel (f : Nat → List Value) (B : Nat → Bool) (c : Bool) : Nat → List Value
  | 0 => []
  | j + 1 => sel f B c j ++ (if B j = c then f j else [])
def cn (B : Nat → Bool) (c : Bool) : Nat → Nat
  | 0 => 0
  | j + 1 => cn B c j + (if B j = c then 1 else 0)
theorem sel_yes {f : Nat → List Value} {B : Nat → Bool} {c : Bool} {j : Nat} (h : B j = c) : sel f B c j ++ f j = sel f B c (j + 1) := by rw [sel, if_pos h]
theorem sel_no {f : Nat → List Value} {B : Nat → Bool} {c : Bool} {j : Nat} (h : ¬ B j = c) : sel f B c j = sel f B c (j + 1) := by rw [sel, if_neg h, List.append_nil]
theorem cn_yes {B : Nat → Bool} {c : Bool} {j : Nat} (h : B j = c) : cn B c (j + 1) = cn B c j + 1 := by rw [cn, if_pos h]
theorem cn_no {B : Nat → Bool} {c : Bool} {j : Nat} (h : ¬ B j = c) : cn B c (j + 1) = cn B c j := by rw [cn, if_neg h]; rfl
theorem sel_length {f : Nat → List Value} {k : Nat} (hf : ∀ i, (f i).length = k) (B : Nat → Bool) (c : Bool) : ∀ j, (sel f B c j).length = cn B c j * k
  | 0 => by simp [sel, cn]
  | j + 1 => by
    by_cases h : B j = c
    · rw [← sel_yes h, cn_yes h, List.length_append, sel_length hf B c j, hf, Nat.add_mul, Nat.one_mul]
    · rw [← sel_no h, cn_no h, sel_length hf B c j]
theorem cn_both (B : Nat → Bool) : ∀ j, cn B true j + cn B false j = j
  | 0 => rfl
  | j + 1 => by
    have := cn_both B j
    cases h : B j
    · rw [cn_yes (c := false) h, cn_no (c := true) (by rw [h]; decide)]; omega
    · rw [cn_yes (c := true) h, cn_no (c := false) (by rw [h]; decide)]; omega
def stB (s : Nat) (B : Nat → Bool) : Nat → List Sy
  | 0 => []
  | j + 1 => stB s B j ++ [syk (tn (s + cn B (B j) j)) 27]
theorem stB_length (s : Nat) (B : Nat → Bool) : ∀ j, (stB s B j).length = j
  | 0 => rfl
  | j + 1 => by rw [stB, List.length_append, stB_length s B j]; rfl
theorem stB_succ {s : Nat} {B : Nat → Bool} {c : Bool} {j : Nat} (h : B j = c) : stB s B j ++ [syk (tn (s + cn B c j)) 27] = stB s B (j + 1) := by rw [stB, h]
theorem stB_at (s : Nat) (B : Nat → Bool) (c : Bool) (j : Nat) (h : B j = c) : (stB s B (j + 1))[j]? = some (syk (tn (s + cn B c j)) 27) := by
  rw [← stB_succ h, List.getElem?_append_right (by rw [stB_length]; omega), stB_length, Nat.sub_self]
  rfl
def r0 (src : Int) (i : Nat) : List Value := [.int .u32 src, .int .u32 (i : Int)]
def q0L (src : Int) (i : Nat) : List Value := [.nilIface, .int .i32 0, .int .u32 src, .int .u32 (i : Int)]
def gL (src : Int) (j : Nat) : List Value := tab (r0 src) j
theorem gL_length (src : Int) (j : Nat) : (gL src j).length = j * 2 := tab_length (k := 2) (fun _ => rfl) j
theorem gL_succ (src : Int) (j : Nat) : gL src j ++ [.int .u32 src, .int .u32 (j : Int)] = gL src (j + 1) := (tab_succ _ _).symm
def qS (src : Int) (B : Nat → Bool) (c : Bool) (j : Nat) : List Value := sel (q0L src) B c j
def rS (src : Int) (B : Nat → Bool) (c : Bool) (j : Nat) : List Value := sel (r0 src) B c j
theorem qS_length (src : Int) (B : Nat → Bool) (c : Bool) (j : Nat) : (qS src B c j).length = cn B c j * 4 := sel_length (k := 4) (fun _ => rfl) B c j
theorem rS_length (src : Int) (B : Nat → Bool) (c : Bool) (j : Nat) : (rS src B c j).length = cn B c j * 2 := sel_length (k := 2) (fun _ => rfl) B c j
theorem sel_none {f : Nat → List Value} {k : Nat} (hf : ∀ i, (f i).length = k) (B : Nat → Bool) (c : Bool) (j : Nat) (h : cn B c j = 0) : sel f B c j = [] := by
  rw [← List.length_eq_zero_iff, sel_length hf, h, Nat.zero_mul]

end Go.Proofs.YtkmojepgbbdeiaaDoor.Use
