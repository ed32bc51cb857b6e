/- Keys compared. No condition. -/
import Derived.Test.YtkhmjppfogppoaaDoorU16x
import Derived.Test.YtkhmjppfogppoaaDoorKit2
import Derived.Test.YtkhmjppfogppoaaDoorCall
import Derived.Test.YtkhmjppfogppoaaDoorKit
import Derived.Test.YtkhmjppfogppoaaDoorLoop
import Derived.Test.YtkhmjppfogppoaaDoorLive
import Derived.Test.YtkhmjppfogppoaaDoorApp
import Derived.Test.YtkhmjppfogppoaaDoorOwnK
import Derived.Test.YtkhmjppfogppoaaDoorOwn
import Derived.Test.YtkhmjppfogppoaaDoorDeepCells
import Derived.Test.YtkhmjppfogppoaaDoorRows
import Derived.Test.YtkhmjppfogppoaaDoorUse
namespace Go.Proofs.YtkhmjppfogppoaaDoor.Use
open Go.ChangeShapes Go.WideShapes Go.ChangeAt Go.RowKit Go.Sort Own
set_option linter.unusedVariables false
theorem unitsOf_len (r : Nat) : (unitsOf r).length ≤ 2 := by
  unfold unitsOf
  split <;> simp
theorem u16f_len (s : ByteArray) : ∀ g pos, (u16f g s pos).length ≤ 2 * g := by
  intro g
  induction g with
  | zero => intro pos; exact Nat.le_refl _
  | succ g ih =>
    intro pos
    rw [u16f]
    split
    · rw [List.length_append]
      have := ih (pos + (Utf8.decode s pos).2)
      have := unitsOf_len (Utf8.decode s pos).1
      omega
    · simp
theorem u16L_len (s : ByteArray) : (u16L s).length ≤ 2 * s.size := u16f_len s s.size 0
theorem unitsOf_int (r : Nat) : ∀ u, u ∈ unitsOf r → ∃ v : Int, u = .int .u16 v := by
  intro u hu
  unfold unitsOf at hu
  split at hu
  · exact ⟨_, List.mem_singleton.1 hu⟩
  · rcases List.mem_cons.1 hu with h | h
    · exact ⟨_, h⟩
    · exact ⟨_, List.mem_singleton.1 h⟩
theorem u16f_int (s : ByteArray) : ∀ g pos u, u ∈ u16f g s pos → ∃ v : Int, u = .int .u16 v := by
  intro g
  induction g with
  | zero => intro pos u hu; cases hu
  | succ g ih =>
    intro pos u hu
    rw [u16f] at hu
    split at hu
    · rcases List.mem_append.1 hu with h | h
      · exact unitsOf_int _ u h
      · exact ih _ u h
    · cases hu
theorem u16L_int (s : ByteArray) (i : Nat) (h : i < (u16L s).length) : ∃ v : Int, (u16L s)[i]? = some (.int .u16 v) := by
  obtain ⟨v, hv⟩ := u16f_int s s.size 0 _ (List.getElem_mem h)
  exact ⟨v, by rw [List.getElem?_eq_getElem h]; exact congrArg some hv⟩

def unitsEqXPost (lst : List Value) (ua ub da db : Nat) (w0 : World) (X : Nat → Obj → Prop) (e : Ending) (w' : World) : Prop :=
  e = .returned (.bool true) ∧ Own w0 w' [row (ua) 51 (full u16Z lst da), row (ub) 51 (full u16Z lst db)] X
set_option maxRecDepth 100000 in
set_option maxHeartbeats 1000000 in
theorem unitsEqX (lst : List Value) (ua ub da db : Nat) (w0 w : World) (X : Nat → Obj → Prop) (hO : Own w0 w [row (ua) 51 (full u16Z lst da), row (ub) 51 (full u16Z lst db)] X) (hlen : lst.length ≤ 1000000) (hall : ∀ i : Nat, i < lst.length → ∃ v : Int, lst[i]? = some (.int .u16 v)) :
    Calls Tryd.prog 42 #[.slice (some ⟨ua, 0, none⟩) lst.length (lst.length + da), .slice (some ⟨ub, 0, none⟩) lst.length (lst.length + db)] w (unitsEqXPost lst ua ub da db w0 X) := by
  have hlen9 : (lst.length : Int) ≤ 1000000 := by omega
  go_enter Tryd.func42, Tryd.ntmps42
  go_wp2
  go_loopg [5] lst.length (fun gf s5 wx => ∃ k : Nat, s5 = .int .i64 (k : Int) ∧ k + gf = lst.length ∧ Own w0 wx [row ua 51 (full u16Z lst da), row ub 51 (full u16Z lst db)] X)
  case atStart => exact ⟨0, rfl, by omega, hO⟩
  case round =>
    obtain ⟨k, rfl, hk, hR⟩ := hrel
    by_cases hlt : k < lst.length
    · obtain ⟨g', rfl⟩ : ∃ g', gk = g' + 1 := ⟨gk - 1, by omega⟩
      have hlt' : (k : Int) < lst.length := by omega
      obtain ⟨v, hv⟩ := hall k hlt
      have q1 := cell_regrown (hR.cell 0 rfl _ (full_at hv))
      have q2 := cell_regrown (hR.cell 1 rfl _ (full_at hv))
      have H := Lib.hid hR
      clear hR
      go_wp2
      refine wp_region_quiet_below (by kernel_rfl) (by kernel_rfl) ?_
      repeat (quiet_step (fail))
      refine wpQuiet_nil ?_
      intro _ hw'
      obtain ⟨⟨dq, osq⟩, hw''⟩ := hw'
      subst hw''
      have hR := H.out.step (below_regrown wr dq osq)
      clear H q1 q2
      generalize grow (redrawn wr dq) osq = V at hR ⊢
      have H := Lib.hid hR
      clear hR
      go_wp2
      go_roundg g'
      case measure => omega
      case rel => exact ⟨k + 1, by simp, by omega, H.out⟩
    · obtain rfl : gk = 0 := by omega
      obtain rfl : k = lst.length := by omega
      go_wp2
      go_returns
      exact ⟨rfl, hR⟩

def isKeyXPost (lst : List Value) (eb ua ub da db : Nat) (l : Int) (w0 : World) (X : Nat → Obj → Prop) (e : Ending) (w' : World) : Prop :=
  e = .returned (.bool true) ∧ Own w0 w' [row (eb) 208 #[.slice (some ⟨ua, 0, none⟩) lst.length (lst.length + da), .int .i32 0, .bool false, .bool false, .bool false], row (ua) 51 (full u16Z lst da), row (ub) 51 (full u16Z lst db)] X
set_option maxRecDepth 100000 in
set_option maxHeartbeats 1000000 in
theorem isKeyX (lst : List Value) (eb ua ub da db : Nat) (l : Int) (w0 w : World) (X : Nat → Obj → Prop) (hO : Own w0 w [row (eb) 208 #[.slice (some ⟨ua, 0, none⟩) lst.length (lst.length + da), .int .i32 0, .bool false, .bool false, .bool false], row (ua) 51 (full u16Z lst da), row (ub) 51 (full u16Z lst db)] X) (hlen : lst.length ≤ 1000000) (hall : ∀ i : Nat, i < lst.length → ∃ v : Int, lst[i]? = some (.int .u16 v)) :
    Calls Tryd.prog 25 #[.agg #[.iface 206 (.pointer (some ⟨eb, 0, none⟩)), .int .i32 l], .slice (some ⟨ub, 0, none⟩) lst.length (lst.length + db)] w (isKeyXPost lst eb ua ub da db l w0 X) := by
  go_enter Tryd.func25, Tryd.ntmps25
  obtain ⟨ix9, hix9, hax9, hjx9⟩ := hO.ix
  have ix9_0 : ix9 eb = 0 := hjx9 0 _ _ rfl
  have ix9_1 : ix9 ua = 1 := hjx9 1 _ _ rfl
  have ix9_2 : ix9 ub = 2 := hjx9 2 _ _ rfl
  clear hjx9
  obtain ⟨c9_0_0, c9_0_1, c9_0_2, c9_0_3, c9_0_4, lt9_0, y9_0, -⟩ := hO.k5 0 rfl
  have pl9_1 : Base.plainAt w (ua) = true := hO.plain 1 rfl
  have pl9_2 : Base.plainAt w (ub) = true := hO.plain 2 rfl
  have HO := Lib.hid hO
  clear hO
  go_wp2_with (first | (with_reducible refine Own.stay (fn := Tryd.f25) ?_) | fail)
  try with_reducible refine Own.Stay.mk ?_
  have hO := HO.out
  clear HO hix9 hax9 ix9_0 ix9_1 ix9_2 ix9 c9_0_0 c9_0_1 c9_0_2 c9_0_3 c9_0_4 lt9_0 y9_0 pl9_1 pl9_2
  generalize hW : World.alloc _ _ = W2
  have hN : Own w0 W2 [row (w.heap.size) 35 #[.iface 206 (.pointer (some ⟨eb, 0, none⟩)), .int .i32 l], row (eb) 208 #[.slice (some ⟨ua, 0, none⟩) lst.length (lst.length + da), .int .i32 0, .bool false, .bool false, .bool false], row (ua) 51 (full u16Z lst da), row (ub) 51 (full u16Z lst db)] X := by
    rw [← hW]
    exact (hO).alloc' _ (w.heap.size) (by simp)
  clear hW hO
  generalize w.heap.size = B1 at hN ⊢
  have hO := hN
  clear hN
  have hL := hO.apart
  have hX := hO.apartX
  have HL := Lib.hid hL
  have HX := Lib.hid hX
  clear hL hX
  have hP9 := hO.pick [1] (by decide)
  have T9 := stringOf eb ua lst.length (lst.length + da) l _ _ _ hP9 
  refine Calls.mono T9 ?_
  clear hP9 T9
  rintro e u3 ⟨rfl, hQ⟩
  have hN : Own w0 u3 [row (eb) 208 #[.slice (some ⟨ua, 0, none⟩) lst.length (lst.length + da), .int .i32 0, .bool false, .bool false, .bool false], row (B1) 35 #[.iface 206 (.pointer (some ⟨eb, 0, none⟩)), .int .i32 l], row (ua) 51 (full u16Z lst da), row (ub) 51 (full u16Z lst db)] X := hQ.back HL.out HX.out [0, 2, 3] (by decide) (by decide)
  clear hQ HL HX hO
  have hO := hN
  clear hN
  obtain ⟨ix9, hix9, hax9, hjx9⟩ := hO.ix
  have ix9_0 : ix9 eb = 0 := hjx9 0 _ _ rfl
  have ix9_1 : ix9 B1 = 1 := hjx9 1 _ _ rfl
  have ix9_2 : ix9 ua = 2 := hjx9 2 _ _ rfl
  have ix9_3 : ix9 ub = 3 := hjx9 3 _ _ rfl
  clear hjx9
  obtain ⟨c9_0_0, c9_0_1, c9_0_2, c9_0_3, c9_0_4, lt9_0, y9_0, -⟩ := hO.k5 0 rfl
  obtain ⟨c9_1_0, c9_1_1, lt9_1, y9_1, -⟩ := hO.k2 1 rfl
  have pl9_2 : Base.plainAt u3 (ua) = true := hO.plain 2 rfl
  have pl9_3 : Base.plainAt u3 (ub) = true := hO.plain 3 rfl
  have HO := Lib.hid hO
  clear hO
  go_wp2_with (first | (with_reducible refine Own.stay (fn := Tryd.f25) ?_) | fail)
  try with_reducible refine Own.Stay.mk ?_
  have hO := HO.out
  clear HO hix9 hax9 ix9_0 ix9_1 ix9_2 ix9_3 ix9 c9_0_0 c9_0_1 c9_0_2 c9_0_3 c9_0_4 lt9_0 y9_0 c9_1_0 c9_1_1 lt9_1 y9_1 pl9_2 pl9_3
  have hL := hO.apart
  have hX := hO.apartX
  have HL := Lib.hid hL
  have HX := Lib.hid hX
  clear hL hX
  have hP9 := hO.pick [2, 3] (by decide)
  have T9 := unitsEqX lst ua ub da db _ _ _ hP9 hlen hall
  refine Calls.mono T9 ?_
  clear hP9 T9
  rintro e u4 ⟨rfl, hQ⟩
  have hN : Own w0 u4 [row (ua) 51 (full u16Z lst da), row (ub) 51 (full u16Z lst db), row (eb) 208 #[.slice (some ⟨ua, 0, none⟩) lst.length (lst.length + da), .int .i32 0, .bool false, .bool false, .bool false], row (B1) 35 #[.iface 206 (.pointer (some ⟨eb, 0, none⟩)), .int .i32 l]] X := hQ.back HL.out HX.out [0, 1] (by decide) (by decide)
  clear hQ HL HX hO
  have hO := hN
  clear hN
  obtain ⟨ix9, hix9, hax9, hjx9⟩ := hO.ix
  have ix9_0 : ix9 ua = 0 := hjx9 0 _ _ rfl
  have ix9_1 : ix9 ub = 1 := hjx9 1 _ _ rfl
  have ix9_2 : ix9 eb = 2 := hjx9 2 _ _ rfl
  have ix9_3 : ix9 B1 = 3 := hjx9 3 _ _ rfl
  clear hjx9
  have pl9_0 : Base.plainAt u4 (ua) = true := hO.plain 0 rfl
  have pl9_1 : Base.plainAt u4 (ub) = true := hO.plain 1 rfl
  obtain ⟨c9_2_0, c9_2_1, c9_2_2, c9_2_3, c9_2_4, lt9_2, y9_2, -⟩ := hO.k5 2 rfl
  obtain ⟨c9_3_0, c9_3_1, lt9_3, y9_3, -⟩ := hO.k2 3 rfl
  have HO := Lib.hid hO
  clear hO
  go_wp2_with (first | (with_reducible refine Own.stay (fn := Tryd.f25) ?_) | fail)
  try with_reducible refine Own.Stay.mk ?_
  have hO := HO.out
  clear HO hix9 hax9 ix9_0 ix9_1 ix9_2 ix9_3 ix9 pl9_0 pl9_1 c9_2_0 c9_2_1 c9_2_2 c9_2_3 c9_2_4 lt9_2 y9_2 c9_3_0 c9_3_1 lt9_3 y9_3
  refine bodyPost_ret (v := .bool true) ?_ rfl ⟨rfl, hO.sub [2, 0, 1] (by decide)⟩
  simp [results, Tryd.results25, go_sem]
end Go.Proofs.YtkhmjppfogppoaaDoor.Use
