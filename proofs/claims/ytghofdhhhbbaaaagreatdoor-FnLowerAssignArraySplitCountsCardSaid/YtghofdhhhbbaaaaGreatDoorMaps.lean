/- Maps keyed by strings, their entries known whole: a store of a new key, a look-up. No condition. -/
import Derived.Test.YtghofdhhhbbaaaaGreatDoorKept
namespace Go.Proofs.YtghofdhhhbbaaaaGreatDoor.Base
open Go.RowKit

/-- Block r is a map with these entries. -/
def MapAt (w : World) (r : Nat) (es : Array MapEntry) (c : Nat) : Prop := w.heap[r]? = some (.map es c)
def setMap (w : World) (r : Nat) (es : Array MapEntry) (c : Nat) : World := { w with heap := w.heap.setIfInBounds r (.map es c) }
section
variable {w w' : World} {r : Nat} {es : Array MapEntry} {c : Nat}
theorem MapAt.lt (h : MapAt w r es c) : r < w.heap.size := (Array.getElem?_eq_some_iff.1 h).1
theorem MapAt.alloc (h : MapAt w r es c) (o : Obj) : MapAt (w.alloc o) r es c := by
  unfold MapAt; rw [Below.heap_alloc _ _ _ h.lt]; exact h
theorem MapAt.drew (h : MapAt w r es c) : MapAt w.drew r es c := h
theorem MapAt.new (w : World) : MapAt (w.alloc (.map #[] 0)) w.heap.size #[] 0 := (MapKept.heap_alloc w _).1
theorem MapAt.kept (h : MapAt w r es c) {S : List Nat} (k : KeptBut S w w') (hn : r ∉ S) : MapAt w' r es c := by
  unfold MapAt; rw [k.block r h.lt hn]; exact h
theorem MapAt.below (h : MapAt w r es c) {B : Nat} (k : Below B w w') (hb : r < B) : MapAt w' r es c := by
  unfold MapAt; rw [k.block r hb]; exact h
theorem MapAt.setCell (h : MapAt w r es c) (a : Addr) (v : Value) : MapAt (w.setCell a v) r es c := by
  unfold MapAt World.setCell
  have h' : w.heap[r]? = some (.map es c) := h
  simp only [Array.getElem?_modify]
  split
  · rename_i e; subst e; rw [h']; rfl
  · exact h
theorem MapAt.set (h : MapAt w r es c) (es' : Array MapEntry) (c' : Nat) : MapAt (setMap w r es' c') r es' c' := by
  unfold MapAt setMap
  simp [h.lt]
theorem KeptBut.setMap {S : List Nat} {a w : World} (h : KeptBut S a w) {r : Nat} (hp : r ∈ S ∨ a.heap.size ≤ r) (es : Array MapEntry) (c : Nat) : KeptBut S a (Base.setMap w r es c) := by
  refine ⟨h.os, h.tape, h.output, by simpa [Base.setMap] using h.size, fun k hk hn => ?_⟩
  have hkr : r ≠ k := by
    rintro rfl
    rcases hp with hp | hp
    · exact hn hp
    · omega
  show (w.heap.setIfInBounds r _)[k]? = _
  rw [Array.getElem?_setIfInBounds, if_neg hkr]
  exact h.block k hk hn
end
section
variable {P : Program} (w : World)
theorem run_getObj_map {r : Nat} {es : Array MapEntry} {c : Nat} (h : MapAt w r es c) : (Go.getObj r).run P w = .ok (.map es c) w := by
  have h' : w.heap[r]? = some (.map es c) := h
  simp only [Go.getObj, Sem.run, h']
theorem run_setObj_map {r : Nat} {es : Array MapEntry} {c : Nat} (h : MapAt w r es c) (es' : Array MapEntry) (c' : Nat) : (Go.setObj r (.map es' c')).run P w = .ok () (setMap w r es' c') := by
  have h' : w.heap[r]? = some (.map es c) := h
  simp only [Go.setObj, Sem.run, h']
  rfl
theorem run_checkKey_str (emp : Bool) (k : TypeId) (hk : P.underlying k = some .string) (s : ByteArray) : (Instr.checkKey emp 10000 k (.string s)).run P w = .ok () w := by
  have hd : ∀ d : Nat, (Instr.checkKey emp (d + 1) k (.string s)).run P w = .ok () w := fun d => by
    simp [Instr.checkKey, run_underlying hk]
  exact hd 9999
theorem run_findKey_str (k : TypeId) (hk : P.underlying k = some .string) (s : ByteArray) (es : List MapEntry) (x : Option (Nat × Value)) (hf : Instr.findNow .string (.string s) es 0 = some x) :
    (Instr.findKey k (.string s) es).run P w = .ok x w := by
  simp [Instr.findKey, run_underlying hk, hf]
theorem run_update_new {t k e : TypeId} (hu : P.underlying t = some (.map k e)) (hk : P.underlying k = some .string) {r : Nat} {es : Array MapEntry} {c : Nat} (h : MapAt w r es c) (s : ByteArray) (v : Value)
    (hf : Instr.findNow .string (.string s) es.toList 0 = some none) :
    (Instr.mapUpdate t (.map (some r)) (.string s) v).run P w = .ok () (setMap w r (es.push ⟨.string s, v, c⟩) (c + 1)) := by
  have h' : w.heap[r]? = some (.map es c) := h
  simp only [Instr.mapUpdate, Sem.run_bind, run_underlying hu, Result.andThen_ok]
  simp [run_getObj_map w h, run_checkKey_str w false k hk s, run_findKey_str w k hk s _ _ hf, run_setObj_map w h]
theorem run_lookup_yes {t k e : TypeId} (hu : P.underlying t = some (.map k e)) (hk : P.underlying k = some .string) {r : Nat} {es : Array MapEntry} {c : Nat} (h : MapAt w r es c) (s : ByteArray) (i : Nat) (v : Value)
    (hf : Instr.findNow .string (.string s) es.toList 0 = some (some (i, v))) (ok : Bool) :
    (Instr.lookup t (.map (some r)) (.string s) ok).run P w = .ok (if ok then .tuple #[v, .bool true] else v) w := by
  have h' : w.heap[r]? = some (.map es c) := h
  simp only [Instr.lookup, Sem.run_bind, run_underlying hu, Result.andThen_ok]
  simp [run_getObj_map w h, run_checkKey_str w _ k hk s, run_findKey_str w k hk s _ _ hf]
theorem run_lookup_no {t k e : TypeId} (hu : P.underlying t = some (.map k e)) (hk : P.underlying k = some .string) {r : Nat} {es : Array MapEntry} {c : Nat} (h : MapAt w r es c) (s : ByteArray) (z : Value)
    (hz : (zeroValue e).run P w = .ok z w) (hf : Instr.findNow .string (.string s) es.toList 0 = some none) (ok : Bool) :
    (Instr.lookup t (.map (some r)) (.string s) ok).run P w = .ok (if ok then .tuple #[z, .bool false] else z) w := by
  have h' : w.heap[r]? = some (.map es c) := h
  simp only [Instr.lookup, Sem.run_bind, run_underlying hu, Result.andThen_ok]
  simp [run_getObj_map w h, run_checkKey_str w _ k hk s, run_findKey_str w k hk s _ _ hf, hz]
end

/-- A composite that is kept closed, run alone. -/
theorem wp_buildL {P : Program} {o : Oper} {a : Act} {w : World} {K : Act → World → Prop} {Q : Exit → Act → World → Prop} (t : TypeId) {l : List (Nat × Operand)} (ho : o.op = .build t l.toArray) (ps : List (Nat × Value))
    (hps : l.map (fun x => (x.1, a.eval x.2)) = ps) (hs : (P.built t ps).isSome = true) (h : K (a.put o.dst (.agg (builtOf P t ps))) w) : o.wp P a w K Q := by
  have e : (l.toArray.map fun (i, x) => (i, a.eval x)).toList = ps := by rw [← hps]; simp
  refine wp_build t l.toArray ho (by rw [e]; exact hs) ?_
  rw [e]
  exact h
end Go.Proofs.YtghofdhhhbbaaaaGreatDoor.Base
