/- Rows that a loop fills: an array of n elements, the first of them told, the others zero. No condition. -/
import Derived.Test.YtghofdhhhbbaaaaGreatDoorApp
import Derived.WalkKit
import Derived.Deep.LoopGhost
namespace Go.Proofs.YtghofdhhhbbaaaaGreatDoor.Own
open Go.RowKit
theorem full_empty (z : Array Value) (n : Nat) : full z [] n = Builtin.zeroCells z n := by simp [full]
theorem made_full (z : Array Value) (n : Nat) : madeCells z (n * z.size) = full z [] n := by
  rw [full_empty]
  rfl
/-- make([]T, l, c). -/
theorem run_mk_full {P : Program} (w : World) (t e : TypeId) (i : TypeInfo) (z : Value) (size bytes : Nat) (ht : P.underlying t = some (.slice e)) (hi : P.info? e = some i) (hz : i.zero = some z) (hs : i.size = size) (hb : i.bytes = bytes) (hzs : z.cells.size = size)
    (kl kc : IntKind) (l c : Nat) (hlc : l ≤ c) (hbytes : bytes * c ≤ 281474976710656) (h63 : c ≤ 9223372036854775807) :
    (Instr.makeSlice t (.int kl (l : Int)) (.int kc (c : Int))).run P w = .ok (.slice (some ⟨w.heap.size, 0, none⟩) l c) (w.alloc (.cells (full z.cells [] c) e)) := by
  subst hs
  subst hb
  have h := run_make (P := P) w t e i z ht hi hz kl kc (l : Int) (c : Int) (by omega) (by omega) (by have h5 : ((i.bytes * c : Nat) : Int) ≤ ((281474976710656 : Nat) : Int) := Int.ofNat_le.2 hbytes; rw [Int.natCast_mul] at h5; exact h5) (by omega)
  simp only [Int.toNat_natCast] at h
  rw [h, ← hzs, made_full]
theorem zeroCells_succ (z : Array Value) (c : Nat) : (Builtin.zeroCells z (c + 1)).toList = z.toList ++ (Builtin.zeroCells z c).toList := by
  have h := zeroCells_drop z 1 c
  rw [Nat.one_mul, Nat.add_comm 1 c] at h
  rw [← List.take_append_drop z.size (Builtin.zeroCells z (c + 1)).toList, h]
  congr 1
  apply List.ext_getElem?
  intro i
  rw [List.getElem?_take]
  by_cases hi : i < z.size
  · have h1 : i < (c + 1) * z.size := by rw [Nat.add_mul]; omega
    simp [Builtin.zeroCells, h1, hi, Nat.mod_eq_of_lt hi]
  · simp [hi]
theorem setAll_list (l m r vs : List Value) (h : vs.length = m.length) : setAll (l ++ m ++ r).toArray l.length vs = (l ++ vs ++ r).toArray := by
  induction vs generalizing l m with
  | nil =>
    have : m = [] := List.length_eq_zero_iff.1 h.symm
    subst this
    rfl
  | cons v vs ih =>
    match m, h with
    | x :: m, h =>
      have h' : vs.length = m.length := by simpa using h
      have e : ((l ++ x :: m ++ r).toArray.setIfInBounds l.length v) = ((l ++ [v]) ++ m ++ r).toArray := by
        apply Array.ext'
        simp
      show setAll ((l ++ x :: m ++ r).toArray.setIfInBounds l.length v) (l.length + 1) vs = _
      rw [e]
      have := ih (l ++ [v]) m h'
      rw [List.length_append] at this
      show setAll ((l ++ [v]) ++ m ++ r).toArray (l.length + 1) vs = _
      rw [show l.length + 1 = l.length + [v].length from rfl, this]
      simp
/-- The next element is told. -/
theorem full_next {z : Array Value} {l : List Value} {c : Nat} (vs : List Value) (hv : vs.length = z.size) : setAll (full z l (c + 1)) l.length vs = full z (l ++ vs) c := by
  have h := setAll_list l z.toList (Builtin.zeroCells z c).toList vs (by simpa using hv)
  unfold full
  have e1 : l.toArray ++ Builtin.zeroCells z (c + 1) = (l ++ z.toList ++ (Builtin.zeroCells z c).toList).toArray := by
    apply Array.ext'
    simp [zeroCells_succ]
  have e2 : (l ++ vs).toArray ++ Builtin.zeroCells z c = (l ++ vs ++ (Builtin.zeroCells z c).toList).toArray := by
    apply Array.ext'
    simp
  rw [e1, e2, h]
theorem full_next1 {z : Array Value} {l : List Value} {c : Nat} (v : Value) (hz : z.size = 1) : (full z l (c + 1)).setIfInBounds l.length v = full z (l ++ [v]) c := full_next [v] hz.symm
theorem full_next2 {z : Array Value} {l : List Value} {c : Nat} (u v : Value) (hz : z.size = 2) : ((full z l (c + 1)).setIfInBounds l.length u).setIfInBounds (l.length + 1) v = full z (l ++ [u, v]) c := full_next [u, v] hz.symm
/-- The first n values of f. -/
def tab (f : Nat → List Value) (n : Nat) : List Value := (List.range n).flatMap f
theorem tab_succ (f : Nat → List Value) (n : Nat) : tab f (n + 1) = tab f n ++ f n := by simp [tab, List.range_succ]
theorem tab_zero (f : Nat → List Value) : tab f 0 = [] := rfl
theorem tab_length {f : Nat → List Value} {k : Nat} (hf : ∀ i, (f i).length = k) : ∀ n, (tab f n).length = n * k
  | 0 => by simp [tab]
  | n + 1 => by rw [tab_succ, List.length_append, tab_length hf n, hf]; rw [Nat.add_mul]; omega
theorem tab_at {f : Nat → List Value} {k : Nat} (hf : ∀ i, (f i).length = k) {n i o : Nat} {v : Value} (hi : i < n) (ho : (f i)[o]? = some v) : (tab f n)[i * k + o]? = some v := by
  induction n with
  | zero => omega
  | succ n ih =>
    have hok : o < k := by rw [← hf i]; exact (List.getElem?_eq_some_iff.1 ho).1
    rw [tab_succ]
    by_cases h : i < n
    · have hm : (i + 1) * k ≤ n * k := Nat.mul_le_mul_right k h
      rw [Nat.add_mul] at hm
      rw [List.getElem?_append_left (by rw [tab_length hf]; omega)]
      exact ih h
    · have : i = n := by omega
      subst this
      rw [List.getElem?_append_right (by rw [tab_length hf]; omega), tab_length hf, Nat.add_sub_cancel_left]
      exact ho
theorem tab_congr {f g : Nat → List Value} {n : Nat} (h : ∀ i, i < n → f i = g i) : tab f n = tab g n := by
  induction n with
  | zero => rfl
  | succ n ih => rw [tab_succ, tab_succ, ih (fun i hi => h i (by omega)), h n (by omega)]
theorem full_room {z : Array Value} {l : List Value} {c o : Nat} {v : Value} (hv : z[o]? = some v) : (full z l (c + 1))[l.length + o]? = some v := by
  have ho := (Array.getElem?_eq_some_iff.1 hv).1
  unfold full
  rw [Array.getElem?_append_right (by simp)]
  simp only [List.size_toArray, Nat.add_sub_cancel_left]
  rw [← Array.getElem?_toList, zeroCells_succ, List.getElem?_append_left (by simpa using ho)]
  simpa using hv
section
variable {w0 w w' : World} {L M : List Rw} {X : Nat → Obj → Prop}
theorem Own.next1 (h : Own w0 w L X) (i : Nat) {b : Nat} {t : TypeId} {z : Array Value} {l : List Value} {c : Nat} (hi : L[i]? = some (row b t (full z l (c + 1)))) (hz : z.size = 1) (j : Nat) (hj : j = l.length) (v : Value) :
    Own w0 (w.setCell ⟨b, j, none⟩ v) (L.set i (row b t (full z (l ++ [v]) c))) X := by
  subst hj
  have := h.set i hi l.length v
  rwa [full_next1 v hz] at this
theorem Own.next2 (h : Own w0 w L X) (i : Nat) {b : Nat} {t : TypeId} {z : Array Value} {l : List Value} {c : Nat} (hi : L[i]? = some (row b t (full z l (c + 1)))) (hz : z.size = 2) (j j' : Nat) (hj : j = l.length) (hj' : j' = l.length + 1) (u v : Value) :
    Own w0 ((w.setCell ⟨b, j, none⟩ u).setCell ⟨b, j', none⟩ v) (L.set i (row b t (full z (l ++ [u, v]) c))) X := by
  subst hj
  subst hj'
  have h1 := h.set i hi l.length u
  have hl : i < L.length := (List.getElem?_eq_some_iff.1 hi).1
  have h2 := h1.set i (by rw [List.getElem?_set, if_pos rfl, if_pos hl]) (l.length + 1) v
  rw [full_next2 u v hz, List.set_set] at h2
  exact h2
/-- A row of the frame is taken out of it. -/
theorem Own.take (h : Own w0 w L X) {b : Nat} {o : Obj} (hx : X b o) : Own w0 w ((b, o) :: L) (fun b' o' => X b' o' ∧ b' ≠ b) := by
  have hf := h.frame b o hx
  refine ⟨h.below, fun r hr => ?_, List.pairwise_cons.2 ⟨fun r hr => (hf.2.2 r hr).symm, h.apart⟩, fun b' o' hx' => ?_⟩
  · rcases List.mem_cons.1 hr with rfl | hr
    · exact ⟨hf.1, hf.2.1⟩
    · exact h.rows r hr
  · have hf' := h.frame b' o' hx'.1
    refine ⟨hf'.1, hf'.2.1, fun r hr => ?_⟩
    rcases List.mem_cons.1 hr with rfl | hr
    · exact hx'.2.symm
    · exact hf'.2.2 r hr
/-- The first row is laid into the frame. -/
theorem Own.give {b : Nat} {o : Obj} (h : Own w0 w ((b, o) :: L) X) {Y : Nat → Obj → Prop} (hY : ∀ b' o', Y b' o' → X b' o' ∨ (b' = b ∧ o' = o)) : Own w0 w L Y := by
  have h0 := h.rows (b, o) List.mem_cons_self
  have hp := List.pairwise_cons.1 h.apart
  refine ⟨h.below, fun r hr => h.rows r (List.mem_cons_of_mem _ hr), hp.2, fun b' o' hy => ?_⟩
  rcases hY b' o' hy with hx | ⟨rfl, rfl⟩
  · have hf := h.frame b' o' hx
    exact ⟨hf.1, hf.2.1, fun r hr => hf.2.2 r (List.mem_cons_of_mem _ hr)⟩
  · exact ⟨h0.1, h0.2, fun r hr => (hp.1 r hr).symm⟩
theorem Own.weaken (h : Own w0 w L X) {Y : Nat → Obj → Prop} (hY : ∀ b o, Y b o → X b o) : Own w0 w L Y := ⟨h.below, h.rows, h.apart, fun b o hy => h.frame b o (hY b o hy)⟩
end
theorem wrap_byte16 (b : UInt8) : IntKind.u16.wrap (b.toNat : Int) = (b.toNat : Int) := by
  have := b.toNat_lt
  rw [IntKind.wrap_u16]
  omega
theorem wrap_byte32 (b : UInt8) : IntKind.u32.wrap (b.toNat : Int) = (b.toNat : Int) := by
  have := b.toNat_lt
  rw [IntKind.wrap_u32]
  omega
end Go.Proofs.YtghofdhhhbbaaaaGreatDoor.Own
