/- The doors of the lowering of a logical assignment; the table of counts. No condition. -/
import Derived.Test.YtlgefnjkoklboaaDoorLow36
import Derived.Test.YtlgefnjkoklboaaDoorTotal
namespace Go.Proofs.YtlgefnjkoklboaaDoor.Use
open Go.ChangeShapes Go.WideShapes Go.ChangeAt Go.RowKit Go.Sort
set_option linter.unusedVariables false
/-- The first n symbols of a table have these counts. -/
def Cnt (C : Array Value) (n : Nat) (uc : Nat → Nat) : Prop := C.size = n * 10 ∧ ∀ j, j < n → C[j * 10 + 4]? = some (.int .u32 (uc j : Int))
def bump (uc : Nat → Nat) (i : Nat) : Nat → Nat := fun j => if j = i then uc j + 1 else uc j
theorem Cnt.made {z : Array Value} (n : Nat) (hz : z.size = 10) (h4 : z[4]! = .int .u32 0) : Cnt (madeCells z (n * 10)) n (fun _ => 0) := by
  refine ⟨size_madeCells _ _, fun j hj => ?_⟩
  have h : j * 10 + 4 < n * 10 := by omega
  have hm : (j * 10 + 4) % 10 = 4 := by omega
  simp only [madeCells, Array.getElem?_map, Array.getElem?_range, h, if_true, Option.map_some, hz, hm, h4]
  rfl
theorem Cnt.set {C : Array Value} {n i : Nat} {uc : Nat → Nat} (h : Cnt C n uc) (hi : i < n) : Cnt (C.setIfInBounds (i * 10 + 4) (.int .u32 ((uc i + 1 : Nat) : Int))) n (bump uc i) := by
  refine ⟨by simp [h.1], fun j hj => ?_⟩
  rw [Array.getElem?_setIfInBounds]
  unfold bump
  by_cases e : j = i
  · subst e
    have := h.1
    rw [if_pos rfl, if_pos (by omega), if_pos rfl]
  · rw [if_neg (by omega), if_neg e]
    exact h.2 j hj
theorem Cnt.cells {C : Array Value} {n : Nat} {uc : Nat → Nat} (h : Cnt C n uc) {w : World} {sb : Nat} (hr : Base.RowAt w sb 223 C) : ∀ j, j < n → w.cell? ⟨sb, j * 10 + 4, none⟩ = some (.int .u32 (uc j : Int)) :=
  fun j hj => hr.cell (h.2 j hj)
theorem sum_zero (n : Nat) : l131.sumTo (fun _ => 0) n = 0 := by induction n with
  | zero => rfl
  | succ n ih => simp [l131.sumTo, ih]
theorem sum_bump (uc : Nat → Nat) (i : Nat) : ∀ n, l131.sumTo (bump uc i) n = l131.sumTo uc n + if i < n then 1 else 0
  | 0 => by simp [l131.sumTo]
  | n + 1 => by
    simp only [l131.sumTo, sum_bump uc i n]
    unfold bump
    by_cases e : n = i
    · subst e
      rw [if_pos rfl, if_neg (by omega), if_pos (by omega)]
      omega
    · rw [if_neg e]
      by_cases h : i < n
      · rw [if_pos h, if_pos (by omega)]; omega
      · rw [if_neg h, if_neg (by omega)]; omega
set_option maxRecDepth 100000 in
set_option maxHeartbeats 1000000 in
theorem low21yes (pb sb n cap i c ib eb nb : Nat) (x src ll loc op lr : Int) (C : Array Value) (w : World) (hP : ParAt w pb sb n cap) (hi : i < n) (hn : n ≤ 4294967295) (hne : pb ≠ sb)
    (hx : w.cell? ⟨pb, 23, none⟩ = some (.int .u64 x)) (hx1 : (bits BinOp.and IntKind.u64 x 137438953472 != 0) = true)
    (hC : Base.RowAt w sb 223 C) (hc : C[i * 10 + 4]? = some (.int .u32 (c : Int))) (hcm : c < 4294967295)
    (ri : Base.RowAt w ib 214 #[.int .u32 src, .int .u32 (i : Int), .bool false, .bool false, .bool false]) (hib : ib ≠ sb)
    (re : Base.RowAt w eb 47 #[.iface 55 (.pointer (some ⟨ib, 0, none⟩)), .int .i32 ll, .iface 36 (.pointer (some ⟨nb, 0, none⟩)), .int .i32 lr, .int .u8 0, .bool false]) (heb : eb ≠ sb) :
    Calls Tryd.prog 21 #[.pointer (some ⟨pb, 0, none⟩), .agg #[.int .i32 loc], .pointer (some ⟨eb, 0, none⟩), .int .u8 op] w fun e w' => ∃ v, e = .returned (.tuple #[v, .bool true]) ∧ LowIdLogical sb i c ib 36 nb src ll loc op lr C w (.returned v) w' := by
  have Hc := Lib.hid hc
  have lsb := hC.lt
  have le := re.lt
  have lx := Base.block_of_cell hx
  clear hc
  go_enter Tryd.func21, Tryd.ntmps21
  go_wp2_with fail
  generalize hW : World.alloc _ _ = W
  have hbW : Below w.heap.size w W := by rw [← hW]; go_grown
  have hz : w.heap.size + 2 ≤ W.heap.size := by rw [← hW]; simp <;> omega
  have rr : Base.RowAt W (w.heap.size + 1) 34 #[.nilIface, .int .i32 0] := by
    rw [← hW]
    repeat (first | (refine Base.RowAt.new' _ _ _ _ ?_; simp; done) | refine Base.RowAt.drew ?_ | refine Base.RowAt.alloc ?_ _)
  clear hW
  refine Calls.mono (low36yes pb sb n cap i c ib eb nb x src ll loc op lr C _ (hP.below hbW hP.lt) hi hn hne (Base.cell_below hbW lx hx) hx1 (hC.below hbW lsb) Hc.out hcm (ri.below hbW ri.lt) hib (re.below hbW le) heb) ?_
  rintro e w2 ⟨v, rfl, b, a, xx, hv, ⟨hk2, hs2⟩, hx1', hxa, hab, rb, ra, rx⟩
  obtain rfl := Ending.returned.inj hv
  clear hv
  have rr := rr.kept hk2 (by simp <;> omega)
  have o0 : w2.cell? ⟨w.heap.size + 1, 0, none⟩ = some (.nilIface) := rr.cell rfl
  have oo0 := rr.free 0
  have o1 : w2.cell? ⟨w.heap.size + 1, 1, none⟩ = some (.int .i32 0) := rr.cell rfl
  have oo1 := rr.free 1
  have hk : Base.KeptBut [sb] w w2 := (Base.KeptBut.of_below hbW).trans hk2
  have HR := Lib.hid rr
  have Hk := Lib.hid hk
  have Hrb := Lib.hid rb
  have Hra := Lib.hid ra
  have Hrx := Lib.hid rx
  have Hhs2 := Lib.hid hs2
  clear rr hk hk2 rb ra rx hs2 hC hP
  go_wp2
  generalize hV : World.setCell _ _ _ = V
  have rv : Base.RowAt V (w.heap.size + 1) 34 #[.iface 41 (.pointer (some ⟨b, 0, none⟩)), .int .i32 loc] := by
    rw [← hV]
    exact ((HR.out.set 0 _).set 1 _)
  have hkV : Base.KeptBut [sb] w V := by
    rw [← hV]
    exact ((Hk.out.setCell (Or.inr (by show w.heap.size ≤ w.heap.size + 1; omega)) _).setCell (Or.inr (by show w.heap.size ≤ w.heap.size + 1; omega)) _)
  have g : ∀ {b : Nat} {t : TypeId} {c : Array Value}, b ≠ w.heap.size + 1 → Base.RowAt w2 b t c → Base.RowAt V b t c := fun {b} {t} {c} hb h => by
    rw [← hV]
    exact ((h.setOther hb _).setOther hb _)
  clear hV
  have z0 : V.cell? ⟨w.heap.size + 1, 0, none⟩ = some (.iface 41 (.pointer (some ⟨b, 0, none⟩))) := rv.cell rfl
  have z1 : V.cell? ⟨w.heap.size + 1, 1, none⟩ = some (.int .i32 loc) := rv.cell rfl
  refine bodyPost_ret (v := .tuple #[.agg #[.iface 41 (.pointer (some ⟨b, 0, none⟩)), .int .i32 loc], .bool true]) ?_ rfl ?_
  · simp [results, Tryd.results21, go_sem, z0, z1]
  · exact ⟨_, rfl, b, a, xx, rfl, ⟨hkV, (g (by omega) Hhs2.out)⟩, by omega, hxa, hab, (g (by omega) Hrb.out), (g (by omega) Hra.out), (g (by omega) Hrx.out)⟩
set_option maxRecDepth 100000 in
set_option maxHeartbeats 1000000 in
theorem low21no (pb ib eb : Nat) (x ll loc op : Int) (w : World)
    (hx : w.cell? ⟨pb, 23, none⟩ = some (.int .u64 x)) (hx1 : (bits BinOp.and IntKind.u64 x 137438953472 != 0) = false)
    (e0 : w.cell? ⟨eb, 0, none⟩ = some (.iface 55 (.pointer (some ⟨ib, 0, none⟩)))) (e1 : w.cell? ⟨eb, 1, none⟩ = some (.int .i32 ll)) :
    Calls Tryd.prog 21 #[.pointer (some ⟨pb, 0, none⟩), .agg #[.int .i32 loc], .pointer (some ⟨eb, 0, none⟩), .int .u8 op] w fun e w' => e = .returned (.tuple #[.agg #[.nilIface, .int .i32 0], .bool false]) ∧ Below w.heap.size w w' := by
  have lx := Base.block_of_cell hx
  have le := Base.block_of_cell e0
  go_enter Tryd.func21, Tryd.ntmps21
  go_wp2_with fail
  generalize hW : World.alloc _ _ = W
  have hbW : Below w.heap.size w W := by rw [← hW]; go_grown
  have hz : w.heap.size + 2 ≤ W.heap.size := by rw [← hW]; simp <;> omega
  have rr : Base.RowAt W (w.heap.size + 1) 34 #[.nilIface, .int .i32 0] := by
    rw [← hW]
    repeat (first | (refine Base.RowAt.new' _ _ _ _ ?_; simp; done) | refine Base.RowAt.drew ?_ | refine Base.RowAt.alloc ?_ _)
  clear hW
  refine Calls.mono (low36no pb ib eb x ll loc op _ (Base.cell_below hbW lx hx) hx1 (Base.cell_below hbW le e0) (Base.cell_below hbW le e1)) ?_
  rintro e w2 ⟨rfl, hb2⟩
  have hk2 : Base.KeptBut [] W w2 := .of_below hb2
  have rr := rr.kept hk2 (by simp <;> omega)
  have o0 : w2.cell? ⟨w.heap.size + 1, 0, none⟩ = some (.nilIface) := rr.cell rfl
  have oo0 := rr.free 0
  have o1 : w2.cell? ⟨w.heap.size + 1, 1, none⟩ = some (.int .i32 0) := rr.cell rfl
  have oo1 := rr.free 1
  have hk : Base.KeptBut [] w w2 := (Base.KeptBut.of_below hbW).trans hk2
  have HR := Lib.hid rr
  have Hk := Lib.hid hk
  clear rr hk hk2  hb2
  go_wp2
  generalize hV : World.setCell _ _ _ = V
  have rv : Base.RowAt V (w.heap.size + 1) 34 #[.nilIface, .int .i32 0] := by
    rw [← hV]
    exact ((HR.out.set 0 _).set 1 _)
  have hkV : Base.KeptBut [] w V := by
    rw [← hV]
    exact ((Hk.out.setCell (Or.inr (by show w.heap.size ≤ w.heap.size + 1; omega)) _).setCell (Or.inr (by show w.heap.size ≤ w.heap.size + 1; omega)) _)
  have g : ∀ {b : Nat} {t : TypeId} {c : Array Value}, b ≠ w.heap.size + 1 → Base.RowAt w2 b t c → Base.RowAt V b t c := fun {b} {t} {c} hb h => by
    rw [← hV]
    exact ((h.setOther hb _).setOther hb _)
  clear hV
  have z0 : V.cell? ⟨w.heap.size + 1, 0, none⟩ = some (.nilIface) := rv.cell rfl
  have z1 : V.cell? ⟨w.heap.size + 1, 1, none⟩ = some (.int .i32 0) := rv.cell rfl
  refine bodyPost_ret (v := .tuple #[.agg #[.nilIface, .int .i32 0], .bool false]) ?_ rfl ?_
  · simp [results, Tryd.results21, go_sem, z0, z1]
  · exact ⟨rfl, hkV.below (Nat.le_refl _) (fun k hk => by simp at hk)⟩
end Go.Proofs.YtlgefnjkoklboaaDoor.Use
