/- The lowering of a logical assignment to an identifier, from its entry on. No condition. -/
import Derived.Test.YtlgefnjkoklboaaDoorIdLogic
import Derived.Test.YtlgefnjkoklboaaDoorTotal
namespace Go.Proofs.YtlgefnjkoklboaaDoor.Use
open Go.ChangeShapes Go.WideShapes Go.ChangeAt Go.RowKit Go.Sort
set_option linter.unusedVariables false
set_option maxRecDepth 100000 in
set_option maxHeartbeats 1000000 in
theorem low36yes (pb sb n cap i c ib eb nb : Nat) (x src ll loc op lr : Int) (C : Array Value) (w : World) (hP : ParAt w pb sb n cap) (hi : i < n) (hn : n ≤ 4294967295) (hne : pb ≠ sb)
    (hx : w.cell? ⟨pb, 23, none⟩ = some (.int .u64 x)) (hx1 : (bits BinOp.and IntKind.u64 x 137438953472 != 0) = true)
    (hC : Base.RowAt w sb 223 C) (hc : C[i * 10 + 4]? = some (.int .u32 (c : Int))) (hcm : c < 4294967295)
    (ri : Base.RowAt w ib 214 #[.int .u32 src, .int .u32 (i : Int), .bool false, .bool false, .bool false]) (hib : ib ≠ sb)
    (re : Base.RowAt w eb 47 #[.iface 55 (.pointer (some ⟨ib, 0, none⟩)), .int .i32 ll, .iface 36 (.pointer (some ⟨nb, 0, none⟩)), .int .i32 lr, .int .u8 0, .bool false]) (heb : eb ≠ sb) :
    Calls Tryd.prog 36 #[.pointer (some ⟨pb, 0, none⟩), .agg #[.int .i32 loc], .pointer (some ⟨eb, 0, none⟩), .int .u8 op] w fun e w' => ∃ v, e = .returned (.tuple #[v, .bool true]) ∧ LowIdLogical sb i c ib 36 nb src ll loc op lr C w (.returned v) w' := by
  have e0 : w.cell? ⟨eb, 0, none⟩ = some (.iface 55 (.pointer (some ⟨ib, 0, none⟩))) := re.cell rfl
  have e1 : w.cell? ⟨eb, 1, none⟩ = some (.int .i32 ll) := re.cell rfl
  have lx := Base.block_of_cell hx
  have le := re.lt
  have Hc := Lib.hid hc
  clear hc
  go_enter Tryd.func36, Tryd.ntmps36
  go_wp2_with (first | (go_at_call 40; go_in) | (go_at_call 43; go_in))
  generalize hW : World.alloc _ _ = W
  have hbW : Below w.heap.size w W := by rw [← hW]; go_grown
  have hz : w.heap.size + 4 ≤ W.heap.size := by rw [← hW]; simp <;> omega
  have rl : Base.RowAt W (w.heap.size) 32 #[.int .i32 loc] := by
    rw [← hW]
    repeat (first | (refine Base.RowAt.new' _ _ _ _ ?_; simp; done) | refine Base.RowAt.alloc ?_ _)
  have re' : Base.RowAt W (w.heap.size + 1) 41 #[.pointer (some ⟨eb, 0, none⟩)] := by
    rw [← hW]
    repeat (first | (refine Base.RowAt.new' _ _ _ _ ?_; simp; done) | refine Base.RowAt.alloc ?_ _)
  have ro : Base.RowAt W (w.heap.size + 1 + 1) 45 #[.int .u8 op] := by
    rw [← hW]
    repeat (first | (refine Base.RowAt.new' _ _ _ _ ?_; simp; done) | refine Base.RowAt.alloc ?_ _)
  have rr : Base.RowAt W (w.heap.size + 1 + 1 + 1) 34 #[.nilIface, .int .i32 0] := by
    rw [← hW]
    repeat (first | (refine Base.RowAt.new' _ _ _ _ ?_; simp; done) | refine Base.RowAt.alloc ?_ _)
  clear hW
  have re2 := re.below hbW le
  have lsb := hC.lt
  refine Calls.mono (lowIdLogical pb sb n cap i c ib _ _ _ eb 36 nb src ll loc op lr C _ (hP.below hbW hP.lt) hi hn hne (hC.below hbW lsb) Hc.out hcm (ri.below hbW ri.lt) hib rl ro re' (by omega) (by omega) (by omega) heb (re2.cell rfl) (re2.cell rfl)) ?_
  rintro e w2 ⟨b, a, xx, rfl, ⟨hk2, hs2⟩, hx1', hxa, hab, rb, ra, rx⟩
  have rr := rr.kept hk2 (by simp; omega)
  have o0 : w2.cell? ⟨w.heap.size + 1 + 1 + 1, 0, none⟩ = some .nilIface := rr.cell rfl
  have o1 : w2.cell? ⟨w.heap.size + 1 + 1 + 1, 1, none⟩ = some (.int .i32 0) := rr.cell rfl
  have o2 := rr.free 0
  have o3 := rr.free 1
  have hk : Base.KeptBut [sb] w w2 := (Base.KeptBut.of_below hbW).trans hk2
  have HR := Lib.hid rr
  have Hk := Lib.hid hk
  have H1 := Lib.hid rb
  have H2 := Lib.hid ra
  have H3 := Lib.hid rx
  have H4 := Lib.hid hs2
  clear rr hk hk2 rb ra rx hs2 rl re' ro re2 hC hP
  go_wp2
  generalize hV : World.setCell _ _ _ = V
  have rv : Base.RowAt V (w.heap.size + 1 + 1 + 1) 34 #[.iface 41 (.pointer (some ⟨b, 0, none⟩)), .int .i32 loc] := by
    rw [← hV]
    exact (HR.out.set 0 _).set 1 _
  have hkV : Base.KeptBut [sb] w V := by
    rw [← hV]
    exact (Hk.out.setCell (Or.inr (by show w.heap.size ≤ w.heap.size + 1 + 1 + 1; omega)) _).setCell (Or.inr (by show w.heap.size ≤ w.heap.size + 1 + 1 + 1; omega)) _
  have g : ∀ {b : Nat} {t : TypeId} {c : Array Value}, b ≠ w.heap.size + 1 + 1 + 1 → Base.RowAt w2 b t c → Base.RowAt V b t c := fun {b} {t} {c} hb h => by
    rw [← hV]
    exact (h.setOther hb _).setOther hb _
  clear hV
  have z0 : V.cell? ⟨w.heap.size + 1 + 1 + 1, 0, none⟩ = some (.iface 41 (.pointer (some ⟨b, 0, none⟩))) := rv.cell rfl
  have z1 : V.cell? ⟨w.heap.size + 1 + 1 + 1, 1, none⟩ = some (.int .i32 loc) := rv.cell rfl
  refine bodyPost_ret (v := .tuple #[.agg #[.iface 41 (.pointer (some ⟨b, 0, none⟩)), .int .i32 loc], .bool true]) ?_ rfl ?_
  · simp [results, Tryd.results36, go_sem, z0, z1]
  · exact ⟨_, rfl, b, a, xx, rfl, ⟨hkV, g (by omega) H4.out⟩, by omega, hxa, hab, g (by omega) H1.out, g (by omega) H2.out, g (by omega) H3.out⟩
set_option maxRecDepth 100000 in
set_option maxHeartbeats 1000000 in
theorem low36no (pb ib eb : Nat) (x ll loc op : Int) (w : World)
    (hx : w.cell? ⟨pb, 23, none⟩ = some (.int .u64 x)) (hx1 : (bits BinOp.and IntKind.u64 x 137438953472 != 0) = false)
    (e0 : w.cell? ⟨eb, 0, none⟩ = some (.iface 55 (.pointer (some ⟨ib, 0, none⟩)))) (e1 : w.cell? ⟨eb, 1, none⟩ = some (.int .i32 ll)) :
    Calls Tryd.prog 36 #[.pointer (some ⟨pb, 0, none⟩), .agg #[.int .i32 loc], .pointer (some ⟨eb, 0, none⟩), .int .u8 op] w fun e w' => e = .returned (.tuple #[.agg #[.nilIface, .int .i32 0], .bool false]) ∧ Below w.heap.size w w' := by
  have lx := Base.block_of_cell hx
  have le := Base.block_of_cell e0
  go_enter Tryd.func36, Tryd.ntmps36
  go_wp2_with (first | (go_at_call 40; go_in) | (go_at_call 43; go_in))
  go_returns
  exact ⟨rfl, by go_grown⟩
end Go.Proofs.YtlgefnjkoklboaaDoor.Use
