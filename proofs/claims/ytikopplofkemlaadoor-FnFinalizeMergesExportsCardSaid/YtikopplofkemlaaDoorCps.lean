/- Row 40: zzBytes, the copy of the names, what the law makes. No condition. -/
import Derived.Test.YtikopplofkemlaaDoorNdx
namespace Go.Proofs.YtikopplofkemlaaDoor.Use
open Go.ChangeShapes Go.WideShapes Go.ChangeAt Go.RowKit Go.Sort Own
set_option linter.unusedVariables false
def strZ : Array Value := #[.string ⟨#[]⟩]
theorem infoStr : (Tryd.prog.info? 9).map (fun i => (i.zero, i.size, i.bytes)) = some (some (.string ⟨#[]⟩), 1, 16) := by kernel_rfl
def plcZ : Array Value := #[vO]
theorem infoPlc : (Tryd.prog.info? 42).map (fun i => (i.zero, i.size, i.bytes)) = some (some (vO), 1, 8) := by kernel_rfl
theorem makeStrs (n : Nat) (hn : n ≤ 1048576) (w : World) : (Instr.makeSlice 22 (v6 (n : Int)) (v6 (n : Int))).run Tryd.prog w = .ok (vS w.heap.size n n) (w.alloc (.cells (full strZ [] n) 9)) := by
 obtain ⟨i, hi, z1, z2, z3⟩ := info_parts infoStr
 exact run_mk_full w 22 9 i (.string ⟨#[]⟩) 1 16 Tryd.underlying22 hi z1 z2 z3 rfl .i64 .i64 n n (Nat.le_refl _) (by omega) (by omega)
theorem makeRefs (n : Nat) (hn : n ≤ 1048576) (w : World) : (Instr.makeSlice 38 (v6 (n : Int)) (v6 (n : Int))).run Tryd.prog w = .ok (vS w.heap.size n n) (w.alloc (.cells (full refZ [] n) 31)) := by
 obtain ⟨i, hi, z1, z2, z3⟩ := info_parts infoRef
 exact run_mk_full w 38 31 i (.agg refZ) 2 8 Tryd.underlying38 hi z1 z2 z3 rfl .i64 .i64 n n (Nat.le_refl _) (by omega) (by omega)
theorem makePlcs (n : Nat) (hn : n ≤ 1048576) (w : World) : (Instr.makeSlice 39 (v6 (n : Int)) (v6 (n : Int))).run Tryd.prog w = .ok (vS w.heap.size n n) (w.alloc (.cells (full plcZ [] n) 42)) := by
 obtain ⟨i, hi, z1, z2, z3⟩ := info_parts infoPlc
 exact run_mk_full w 39 42 i (vO) 1 8 Tryd.underlying39 hi z1 z2 z3 rfl .i64 .i64 n n (Nat.le_refl _) (by omega) (by omega)
def nmF (z : Nat → ByteArray) (i : Nat) : List Value := [.string (z i)]
theorem nmF_len (z : Nat → ByteArray) (i : Nat) : (nmF z i).length = 1 := rfl
def nmR (z : Nat → ByteArray) (i g : Nat) : Array Value := full strZ (tab (nmF z) i) g
theorem nmR_at {i n g : Nat} (z : Nat → ByteArray) (h : i < n) : (nmR z n g)[i]? = some (.string (z i)) := by
 have := full_at (z := strZ) (c := g) (tab_at (nmF_len z) h (o := 0) rfl)
 rwa [Nat.mul_one] at this
def loF (D : Nat → Nat → Nat) (i : Nat) : List Value := [.pointer (some ⟨D 0 i, 0, none⟩)]
theorem loF_len (D : Nat → Nat → Nat) (i : Nat) : (loF D i).length = 1 := rfl
def loR (D : Nat → Nat → Nat) (i g : Nat) : Array Value := full plcZ (tab (loF D) i) g
theorem loR_at {i n g : Nat} (D : Nat → Nat → Nat) (h : i < n) : (loR D n g)[i]? = some (.pointer (some ⟨D 0 i, 0, none⟩)) := by
 have := full_at (z := plcZ) (c := g) (tab_at (loF_len D) h (o := 0) rfl)
 rwa [Nat.mul_one] at this
theorem loR_at0 (D : Nat → Nat → Nat) (i g : Nat) : (loR D i (g + 1))[i]? = some (vO) := by
 unfold loR
 have := full_room (z := plcZ) (l := tab (loF D) i) (c := g) (o := 0) rfl
 rwa [tab_length (loF_len D) i, Nat.mul_one, Nat.add_zero] at this
theorem loR_next (D : Nat → Nat → Nat) (i g a b c : Nat) : (loR D i (g + 1)).setIfInBounds i (vP a) = loR (updE D i a b c) (i + 1) g := by
 unfold loR
 have h := full_next1 (z := plcZ) (l := tab (loF D) i) (c := g) (vP a) rfl
 rw [tab_length (loF_len D) i, Nat.mul_one] at h
 rw [h, tab_succ, tab_congr (f := loF (updE D i a b c)) (g := loF D) (fun j hj => by unfold loF; rw [updE_ne D i a b c 0 j (by omega)])]
 unfold loF
 rw [updE_0]
def rfF (i : Nat) : List Value := [vU 0, vU ((i : Int) + 1)]
theorem rfF_len (i : Nat) : (rfF i).length = 2 := rfl
def rfR (i g : Nat) : Array Value := full refZ (tab rfF i) g
theorem rfR_at0 {i n g : Nat} (h : i < n) : (rfR n g)[i * 2]? = some (vU 0) := full_at (tab_at rfF_len h (o := 0) rfl)
theorem rfR_at1 {i n g : Nat} (h : i < n) : (rfR n g)[i * 2 + 1]? = some (vU ((i : Int) + 1)) := full_at (tab_at rfF_len h (o := 1) rfl)
theorem rfR_z0 (i g : Nat) : (rfR i (g + 1))[i * 2]? = some (vU 0) := by
 have := full_room (z := refZ) (l := tab rfF i) (c := g) (o := 0) rfl
 rwa [tab_length rfF_len i, Nat.add_zero] at this
theorem rfR_z1 (i g : Nat) : (rfR i (g + 1))[i * 2 + 1]? = some (vU 0) := by
 have := full_room (z := refZ) (l := tab rfF i) (c := g) (o := 1) rfl
 rwa [tab_length rfF_len i] at this
theorem rfR_next (i g : Nat) : ((rfR i (g + 1)).setIfInBounds (i * 2) (vU 0)).setIfInBounds (i * 2 + 1) (vU ((i : Int) + 1)) = rfR (i + 1) g := by
 have := full_next2 (z := refZ) (l := tab rfF i) (c := g) (vU 0) (vU ((i : Int) + 1)) rfl
 rw [tab_length rfF_len i] at this
 unfold rfR
 rw [this, tab_succ]
 rfl
/-- The statements of the declarations. -/
def sxF (D : Nat → Nat → Nat) (i : Nat) : List Value := [.iface 42 (.pointer (some ⟨D 0 i, 0, none⟩)), vI ((i : Int) + 1)]
theorem sxF_len (D : Nat → Nat → Nat) (i : Nat) : (sxF D i).length = 2 := rfl
def sxR (D : Nat → Nat → Nat) (i g : Nat) : Array Value := full stmZ (tab (sxF D) i) g
theorem sxR_z0 (D : Nat → Nat → Nat) (i g : Nat) : (sxR D i (g + 1))[i * 2]? = some .nilIface := by
 have := full_room (z := stmZ) (l := tab (sxF D) i) (c := g) (o := 0) rfl
 rwa [tab_length (sxF_len D) i, Nat.add_zero] at this
theorem sxR_z1 (D : Nat → Nat → Nat) (i g : Nat) : (sxR D i (g + 1))[i * 2 + 1]? = some (vI 0) := by
 have := full_room (z := stmZ) (l := tab (sxF D) i) (c := g) (o := 1) rfl
 rwa [tab_length (sxF_len D) i] at this
theorem sxR_next (D : Nat → Nat → Nat) (i g a b c : Nat) : ((sxR D i (g + 1)).setIfInBounds (i * 2) (vF 42 a)).setIfInBounds (i * 2 + 1) (vI ((i : Int) + 1)) = sxR (updE D i a b c) (i + 1) g := by
 have := full_next2 (z := stmZ) (l := tab (sxF D) i) (c := g) (vF 42 a) (vI ((i : Int) + 1)) rfl
 rw [tab_length (sxF_len D) i] at this
 unfold sxR
 rw [this, tab_succ, tab_congr (f := sxF (updE D i a b c)) (g := sxF D) (fun j hj => by unfold sxF; rw [updE_ne D i a b c 0 j (by omega)])]
 unfold sxF
 rw [updE_0]
theorem sxR_stL (D : Nat → Nat → Nat) (n : Nat) : sxR D n 0 = full stmZ (stL (dtL (D 0) lcE) (List.range n)) 0 := by
 unfold sxR
 congr 1
 exact tab_stL (dtL (D 0) lcE) n
/-- The symbols behind i names. -/
def stX (z : Nat → ByteArray) (i : Nat) : List Sy := [sy ⟨#[95, 115, 116, 97, 99, 107]⟩ 0] ++ (List.range i).map fun j => syk (z j) 27
theorem stX_len (z : Nat → ByteArray) (i : Nat) : (stX z i).length = i + 1 := by simp [stX]
theorem stX_next (z : Nat → ByteArray) (i : Nat) : stX z i ++ [syk (z i) 27] = stX z (i + 1) := by simp [stX, List.range_succ]
theorem stX_at (z : Nat → ByteArray) {i n : Nat} (h : i < n) : ∃ y : Sy, (stX z n)[i + 1]? = some y ∧ y.nm = z i := ⟨syk (z i) 27, by simp [stX, h], rfl⟩

def bytSPost (sa : Addr) (n cp : Nat) (z : Nat → ByteArray) (aw : Bool) (w0 : World) (X : Nat → Obj → Prop) (e : Ending) (w' : World) : Prop :=
 ∃ b9 : Bool, e = .returned (.bool b9) ∧ (b9 = true → n ≤ 1048576 ∧ ∀ i : Nat, i < n → (z i).size ≤ 1048576) ∧ Own w0 w' [] X
set_option maxRecDepth 100000 in
set_option maxHeartbeats 1000000 in
theorem bytS (sa : Addr) (n cp : Nat) (z : Nat → ByteArray) (aw : Bool) (w0 w : World) (X : Nat → Obj → Prop) (hO : Own w0 w [] X) (hB : ∀ i : Nat, i < n → w0.cell? (sa.add i) = some (.string (z i))) :
  Calls Tryd.prog 7 #[.slice (some sa) n cp, .bool aw] w (bytSPost sa n cp z aw w0 X) := by
 have HB := Lib.hid hB
 clear hB
 by_cases hn : n ≤ 1048576
 ·have hn9 : (n : Int) ≤ 1048576 := by omega
  have hn8 : (0 : Int) ≤ (n : Int) := by omega
  go_enter Tryd.func7, Tryd.ntmps7
  go_wp2
  go_loopg [4, 5, 6] n (fun gf s4 s5 s6 wx => ∃ k t : Nat, s4 = bF ∧ s6 = v6 (k : Int) ∧ s5 = v6 (t : Int) ∧ t ≤ 1048576 ∧ k + gf = n ∧ (∀ i : Nat, i < k → (z i).size ≤ 1048576) ∧ Own w0 wx [] X)
  case atStart => exact ⟨0, n, rfl, rfl, by simp, hn, by omega, fun i hi => absurd hi (Nat.not_lt_zero i), hO⟩
  case round =>
   obtain ⟨k, t, rfl, rfl, rfl, ht, hk, hz, hR⟩ := hrel
   have ht9 : (t : Int) ≤ 1048576 := by omega
   have ht8 : (0 : Int) ≤ (t : Int) := by omega
   have hk8 : (0 : Int) ≤ (k : Int) := by omega
   have HZ := Lib.hid hz
   clear hz
   by_cases hlt : k < n
   ·obtain ⟨g', rfl⟩ : ∃ g', gk = g' + 1 := ⟨gk - 1, by omega⟩
    have hlt' : (k : Int) < n := by omega
    have ho2 : wr.cell? (sa.add k) = some (.string (z k)) := Base.cell_belowA hR.below (HB.out k hlt)
    have H := Lib.hid hR
    clear hR
    by_cases hs : (z k).size ≤ 1048576
    ·have hs9 : ((z k).size : Int) ≤ 1048576 := by omega
     have hs8 : (0 : Int) ≤ ((z k).size : Int) := by omega
     by_cases hsum : t + (z k).size ≤ 1048576
     ·have hsum9 : (t : Int) + ((z k).size : Int) ≤ 1048576 := by omega
      go_wp2
      go_roundg g'
      case measure => omega
      case rel =>
       refine ⟨k + 1, t + (z k).size, rfl, by simp, by simp, hsum, by omega, fun i hi => ?_, H.out⟩
       by_cases e : i = k
       ·rw [e]; exact hs
       ·exact HZ.out i (by omega)
     ·have hsum9 : (1048576 : Int) < (t : Int) + ((z k).size : Int) := by omega
      go_wp2
      go_returns
      exact ⟨false, rfl, (fun h => by cases h), H.out⟩
    ·have hs9 : (1048576 : Int) < ((z k).size : Int) := by omega
     go_wp2
     go_returns
     exact ⟨false, rfl, (fun h => by cases h), H.out⟩
   ·obtain rfl : gk = 0 := by omega
    obtain rfl : k = n := by omega
    have hlt' : ¬ (k : Int) < (k : Int) := by omega
    go_wp2
    go_returns
    exact ⟨true, rfl, (fun _ => ⟨hn, HZ.out⟩), hR⟩
 ·have hn9 : (1048576 : Int) < (n : Int) := by omega
  go_enter Tryd.func7, Tryd.ntmps7
  go_wp2
  go_returns
  exact ⟨false, rfl, (fun h => by cases h), hO⟩

def copyStrPost (sa : Addr) (n cp : Nat) (z : Nat → ByteArray) (w0 : World) (X : Nat → Obj → Prop) (e : Ending) (w' : World) : Prop :=
 ∃ ub : Nat, e = .returned (vS ub n n) ∧ Own w0 w' [row (ub) 9 (nmR z n 0)] X
set_option maxRecDepth 100000 in
set_option maxHeartbeats 1000000 in
theorem copyStr (sa : Addr) (n cp : Nat) (z : Nat → ByteArray) (w0 w : World) (X : Nat → Obj → Prop) (hO : Own w0 w [] X) (hn : n ≤ 4096) (hB : ∀ i : Nat, i < n → w0.cell? (sa.add i) = some (.string (z i))) :
  Calls Tryd.prog 8 #[.slice (some sa) n cp] w (copyStrPost sa n cp z w0 X) := by
 have hmk := makeStrs n (by omega)
 have heq := fun w => Lib.run_eql_slice_nil (P := Tryd.prog) w
 have HB := Lib.hid hB
 clear hB
 go_enter Tryd.func8, Tryd.ntmps8
 go_wp2
 go_loopg [4] n (fun gf s4 wx => ∃ k : Nat, s4 = v6 (k : Int) ∧ k + gf = n ∧ Own w0 wx [row w.heap.size 9 (full strZ (tab (nmF z) k) gf)] X)
 case atStart => exact ⟨0, rfl, by omega, hO.alloc _⟩
 case round =>
  obtain ⟨k, rfl, hk, hR⟩ := hrel
  have hl := tab_length (nmF_len z) k
  rw [Nat.mul_one] at hl
  by_cases hlt : k < n
  ·obtain ⟨g', rfl⟩ : ∃ g', gk = g' + 1 := ⟨gk - 1, by omega⟩
   have hc := hR.cell 0 rfl _ (full_room (o := 0) rfl)
   rw [Nat.add_zero, hl] at hc
   have hf := hR.free 0 rfl k
   have hlt' : (k : Int) < n := by omega
   have ho := HB.out k hlt
   have ho2 : wr.cell? (sa.add k) = some (.string (z k)) := Base.cell_belowA hR.below ho
   have H := Lib.hid hR
   clear hR ho
   go_wp2
   go_roundg g'
   case measure => omega
   case rel =>
    refine ⟨k + 1, by simp, by omega, ?_⟩
    rw [tab_succ, nmF]
    exact H.out.next1 0 rfl rfl k hl.symm _
  ·obtain rfl : gk = 0 := by omega
   obtain rfl : k = n := by omega
   go_wp2
   go_returns
   exact ⟨_, rfl, hR⟩

end Go.Proofs.YtikopplofkemlaaDoor.Use
