/- Several texts in one. No condition. -/
import Derived.Test.YtikopplofkemlaaDoorOwn
import Derived.OwnWalk
import Derived.WalkKit
import Derived.Deep.LoopGhost
namespace Go.Proofs.YtikopplofkemlaaDoor.Own
open Go.RowKit
variable {w0 w w' : World} {L M : List Rw} {X : Nat → Obj → Prop}
theorem Own.k0 (h : Own w0 w L X) (i : Nat) {b : Nat} {t : TypeId} (hi : L[i]? = some (row b t #[])) : b < w.heap.size ∧ (∀ o, w.frozen? ⟨b, o, none⟩ = false) ∧ Base.plainAt w b = true :=
  ⟨h.lt i hi, h.free i hi, h.plain i hi⟩
theorem Own.k1 (h : Own w0 w L X) (i : Nat) {b : Nat} {t : TypeId} {v0 : Value} (hi : L[i]? = some (row b t #[v0])) : w.cell? ⟨b, 0, none⟩ = some v0 ∧ b < w.heap.size ∧ (∀ o, w.frozen? ⟨b, o, none⟩ = false) ∧ Base.plainAt w b = true :=
  ⟨h.cell i hi 0 rfl, h.lt i hi, h.free i hi, h.plain i hi⟩
theorem Own.k2 (h : Own w0 w L X) (i : Nat) {b : Nat} {t : TypeId} {v0 v1 : Value} (hi : L[i]? = some (row b t #[v0, v1])) : w.cell? ⟨b, 0, none⟩ = some v0 ∧ w.cell? ⟨b, 1, none⟩ = some v1 ∧ b < w.heap.size ∧ (∀ o, w.frozen? ⟨b, o, none⟩ = false) ∧ Base.plainAt w b = true :=
  ⟨h.cell i hi 0 rfl, h.cell i hi 1 rfl, h.lt i hi, h.free i hi, h.plain i hi⟩
theorem Own.k3 (h : Own w0 w L X) (i : Nat) {b : Nat} {t : TypeId} {v0 v1 v2 : Value} (hi : L[i]? = some (row b t #[v0, v1, v2])) : w.cell? ⟨b, 0, none⟩ = some v0 ∧ w.cell? ⟨b, 1, none⟩ = some v1 ∧ w.cell? ⟨b, 2, none⟩ = some v2 ∧ b < w.heap.size ∧ (∀ o, w.frozen? ⟨b, o, none⟩ = false) ∧ Base.plainAt w b = true :=
  ⟨h.cell i hi 0 rfl, h.cell i hi 1 rfl, h.cell i hi 2 rfl, h.lt i hi, h.free i hi, h.plain i hi⟩
theorem Own.k4 (h : Own w0 w L X) (i : Nat) {b : Nat} {t : TypeId} {v0 v1 v2 v3 : Value} (hi : L[i]? = some (row b t #[v0, v1, v2, v3])) : w.cell? ⟨b, 0, none⟩ = some v0 ∧ w.cell? ⟨b, 1, none⟩ = some v1 ∧ w.cell? ⟨b, 2, none⟩ = some v2 ∧ w.cell? ⟨b, 3, none⟩ = some v3 ∧ b < w.heap.size ∧ (∀ o, w.frozen? ⟨b, o, none⟩ = false) ∧ Base.plainAt w b = true :=
  ⟨h.cell i hi 0 rfl, h.cell i hi 1 rfl, h.cell i hi 2 rfl, h.cell i hi 3 rfl, h.lt i hi, h.free i hi, h.plain i hi⟩
theorem Own.k5 (h : Own w0 w L X) (i : Nat) {b : Nat} {t : TypeId} {v0 v1 v2 v3 v4 : Value} (hi : L[i]? = some (row b t #[v0, v1, v2, v3, v4])) : w.cell? ⟨b, 0, none⟩ = some v0 ∧ w.cell? ⟨b, 1, none⟩ = some v1 ∧ w.cell? ⟨b, 2, none⟩ = some v2 ∧ w.cell? ⟨b, 3, none⟩ = some v3 ∧ w.cell? ⟨b, 4, none⟩ = some v4 ∧ b < w.heap.size ∧ (∀ o, w.frozen? ⟨b, o, none⟩ = false) ∧ Base.plainAt w b = true :=
  ⟨h.cell i hi 0 rfl, h.cell i hi 1 rfl, h.cell i hi 2 rfl, h.cell i hi 3 rfl, h.cell i hi 4 rfl, h.lt i hi, h.free i hi, h.plain i hi⟩
theorem Own.k6 (h : Own w0 w L X) (i : Nat) {b : Nat} {t : TypeId} {v0 v1 v2 v3 v4 v5 : Value} (hi : L[i]? = some (row b t #[v0, v1, v2, v3, v4, v5])) : w.cell? ⟨b, 0, none⟩ = some v0 ∧ w.cell? ⟨b, 1, none⟩ = some v1 ∧ w.cell? ⟨b, 2, none⟩ = some v2 ∧ w.cell? ⟨b, 3, none⟩ = some v3 ∧ w.cell? ⟨b, 4, none⟩ = some v4 ∧ w.cell? ⟨b, 5, none⟩ = some v5 ∧ b < w.heap.size ∧ (∀ o, w.frozen? ⟨b, o, none⟩ = false) ∧ Base.plainAt w b = true :=
  ⟨h.cell i hi 0 rfl, h.cell i hi 1 rfl, h.cell i hi 2 rfl, h.cell i hi 3 rfl, h.cell i hi 4 rfl, h.cell i hi 5 rfl, h.lt i hi, h.free i hi, h.plain i hi⟩
theorem Own.k7 (h : Own w0 w L X) (i : Nat) {b : Nat} {t : TypeId} {v0 v1 v2 v3 v4 v5 v6 : Value} (hi : L[i]? = some (row b t #[v0, v1, v2, v3, v4, v5, v6])) : w.cell? ⟨b, 0, none⟩ = some v0 ∧ w.cell? ⟨b, 1, none⟩ = some v1 ∧ w.cell? ⟨b, 2, none⟩ = some v2 ∧ w.cell? ⟨b, 3, none⟩ = some v3 ∧ w.cell? ⟨b, 4, none⟩ = some v4 ∧ w.cell? ⟨b, 5, none⟩ = some v5 ∧ w.cell? ⟨b, 6, none⟩ = some v6 ∧ b < w.heap.size ∧ (∀ o, w.frozen? ⟨b, o, none⟩ = false) ∧ Base.plainAt w b = true :=
  ⟨h.cell i hi 0 rfl, h.cell i hi 1 rfl, h.cell i hi 2 rfl, h.cell i hi 3 rfl, h.cell i hi 4 rfl, h.cell i hi 5 rfl, h.cell i hi 6 rfl, h.lt i hi, h.free i hi, h.plain i hi⟩
theorem Own.k8 (h : Own w0 w L X) (i : Nat) {b : Nat} {t : TypeId} {v0 v1 v2 v3 v4 v5 v6 v7 : Value} (hi : L[i]? = some (row b t #[v0, v1, v2, v3, v4, v5, v6, v7])) : w.cell? ⟨b, 0, none⟩ = some v0 ∧ w.cell? ⟨b, 1, none⟩ = some v1 ∧ w.cell? ⟨b, 2, none⟩ = some v2 ∧ w.cell? ⟨b, 3, none⟩ = some v3 ∧ w.cell? ⟨b, 4, none⟩ = some v4 ∧ w.cell? ⟨b, 5, none⟩ = some v5 ∧ w.cell? ⟨b, 6, none⟩ = some v6 ∧ w.cell? ⟨b, 7, none⟩ = some v7 ∧ b < w.heap.size ∧ (∀ o, w.frozen? ⟨b, o, none⟩ = false) ∧ Base.plainAt w b = true :=
  ⟨h.cell i hi 0 rfl, h.cell i hi 1 rfl, h.cell i hi 2 rfl, h.cell i hi 3 rfl, h.cell i hi 4 rfl, h.cell i hi 5 rfl, h.cell i hi 6 rfl, h.cell i hi 7 rfl, h.lt i hi, h.free i hi, h.plain i hi⟩
theorem Own.k9 (h : Own w0 w L X) (i : Nat) {b : Nat} {t : TypeId} {v0 v1 v2 v3 v4 v5 v6 v7 v8 : Value} (hi : L[i]? = some (row b t #[v0, v1, v2, v3, v4, v5, v6, v7, v8])) : w.cell? ⟨b, 0, none⟩ = some v0 ∧ w.cell? ⟨b, 1, none⟩ = some v1 ∧ w.cell? ⟨b, 2, none⟩ = some v2 ∧ w.cell? ⟨b, 3, none⟩ = some v3 ∧ w.cell? ⟨b, 4, none⟩ = some v4 ∧ w.cell? ⟨b, 5, none⟩ = some v5 ∧ w.cell? ⟨b, 6, none⟩ = some v6 ∧ w.cell? ⟨b, 7, none⟩ = some v7 ∧ w.cell? ⟨b, 8, none⟩ = some v8 ∧ b < w.heap.size ∧ (∀ o, w.frozen? ⟨b, o, none⟩ = false) ∧ Base.plainAt w b = true :=
  ⟨h.cell i hi 0 rfl, h.cell i hi 1 rfl, h.cell i hi 2 rfl, h.cell i hi 3 rfl, h.cell i hi 4 rfl, h.cell i hi 5 rfl, h.cell i hi 6 rfl, h.cell i hi 7 rfl, h.cell i hi 8 rfl, h.lt i hi, h.free i hi, h.plain i hi⟩
theorem Own.k10 (h : Own w0 w L X) (i : Nat) {b : Nat} {t : TypeId} {v0 v1 v2 v3 v4 v5 v6 v7 v8 v9 : Value} (hi : L[i]? = some (row b t #[v0, v1, v2, v3, v4, v5, v6, v7, v8, v9])) : w.cell? ⟨b, 0, none⟩ = some v0 ∧ w.cell? ⟨b, 1, none⟩ = some v1 ∧ w.cell? ⟨b, 2, none⟩ = some v2 ∧ w.cell? ⟨b, 3, none⟩ = some v3 ∧ w.cell? ⟨b, 4, none⟩ = some v4 ∧ w.cell? ⟨b, 5, none⟩ = some v5 ∧ w.cell? ⟨b, 6, none⟩ = some v6 ∧ w.cell? ⟨b, 7, none⟩ = some v7 ∧ w.cell? ⟨b, 8, none⟩ = some v8 ∧ w.cell? ⟨b, 9, none⟩ = some v9 ∧ b < w.heap.size ∧ (∀ o, w.frozen? ⟨b, o, none⟩ = false) ∧ Base.plainAt w b = true :=
  ⟨h.cell i hi 0 rfl, h.cell i hi 1 rfl, h.cell i hi 2 rfl, h.cell i hi 3 rfl, h.cell i hi 4 rfl, h.cell i hi 5 rfl, h.cell i hi 6 rfl, h.cell i hi 7 rfl, h.cell i hi 8 rfl, h.cell i hi 9 rfl, h.lt i hi, h.free i hi, h.plain i hi⟩
/-- Each row's place as a number of its own: rows at different places lie in different blocks. -/
theorem Own.ix (h : Own w0 w L X) : ∃ ix : Nat → Nat, (∀ a b : Nat, (ix a == ix b) = false → (a = b) = False) ∧ (∀ (a b o o' : Nat) (s s' : Option Nat), ((⟨a, o, s⟩ : Addr) = ⟨b, o', s'⟩) = (ix a = ix b ∧ a = b ∧ o = o' ∧ s = s')) ∧ ∀ (j : Nat) (b : Nat) (o : Obj), L[j]? = some (b, o) → ix b = j := by
  refine ⟨fun b => (L.map Prod.fst).idxOf b, fun a b hab => eq_false fun e => ?_, fun a b o o' s s' => ?_, fun j b o hj => ?_⟩
  · subst e; simp at hab
  · rw [Addr.mk.injEq]
    exact propext ⟨fun e => ⟨by rw [e.1], e⟩, fun e => e.2⟩
  · have hn : (L.map Prod.fst).Nodup := by
      unfold List.Nodup
      rw [List.pairwise_map]
      exact h.apart
    obtain ⟨hlt, hv⟩ := List.getElem?_eq_some_iff.1 hj
    have hl : j < (L.map Prod.fst).length := by simpa using hlt
    have he : (L.map Prod.fst)[j] = b := by simp [hv]
    show (L.map Prod.fst).idxOf b = j
    rw [← he]
    exact hn.idxOf_getElem j hl
/-- The end of a walk, set aside: no tactic of the walk fits. -/
structure Stay (p : Prop) : Prop where
  out : p
theorem stay {P : Program} {fn : Func} {R : Ending → World → Prop} {x : Exit} {a : Act} {w : World} (h : Stay (bodyPost P fn R x a w)) : bodyPost P fn R x a w := h.out
/-- A cell that was stored to: what was stored, if there is such a cell. (No side condition: the walk reads the elder cell at its own level.) -/
@[go_sem] theorem cell_set_map (w : World) (b o : Nat) (v : Value) : (w.setCell ⟨b, o, none⟩ v).cell? ⟨b, o, none⟩ = (w.cell? ⟨b, o, none⟩).map fun _ => v := by
  cases h : w.cell? ⟨b, o, none⟩ with
  | some u => rw [World.cell?_setCell_same _ _ _ h]; rfl
  | none =>
    unfold World.cell? at h ⊢
    unfold World.setCell
    simp only [Array.getElem?_modify, if_true] at h ⊢
    cases hb : w.heap[b]? with
    | none => simp
    | some x =>
      rw [hb] at h
      cases x <;> simp_all
end Go.Proofs.YtikopplofkemlaaDoor.Own
namespace Go.Proofs.YtikopplofkemlaaDoor.Own
open Go.RowKit
/-- The cells of l, and room for c more elements (each of them holds z). -/
def full (z : Array Value) (l : List Value) (c : Nat) : Array Value := l.toArray ++ Builtin.zeroCells z c
theorem full_at {z : Array Value} {l : List Value} {c i : Nat} {v : Value} (h : l[i]? = some v) : (full z l c)[i]? = some v := by
  obtain ⟨hi, hv⟩ := List.getElem?_eq_some_iff.1 h
  unfold full
  rw [Array.getElem?_append_left (by simpa using hi)]
  simpa using h
theorem full_set {z : Array Value} {l : List Value} {c i : Nat} {u : Value} (h : l[i]? = some u) (v : Value) : (full z l c).setIfInBounds i v = full z (l.set i v) c := by
  obtain ⟨hi, hv⟩ := List.getElem?_eq_some_iff.1 h
  unfold full
  apply Array.ext'
  simp only [Array.toList_setIfInBounds, Array.toList_append]
  rw [List.set_append_left _ _ (by simpa using hi)]
theorem set_get {l : List Value} {i : Nat} {u : Value} (h : l[i]? = some u) (v : Value) : (l.set i v)[i]? = some v := by
  obtain ⟨hi, _⟩ := List.getElem?_eq_some_iff.1 h
  simp [hi]
theorem zeroCells_drop (z : Array Value) (m c : Nat) : (Builtin.zeroCells z (m + c)).toList.drop (m * z.size) = (Builtin.zeroCells z c).toList := by
  apply List.ext_getElem?
  intro i
  simp only [Builtin.zeroCells, Array.toList_map, Array.toList_range, List.getElem?_drop, List.getElem?_map]
  have e : (m * z.size + i) % z.size = i % z.size := by rw [Nat.mul_comm, Nat.mul_add_mod]
  by_cases hi : i < c * z.size
  · have h1 : m * z.size + i < (m + c) * z.size := by rw [Nat.add_mul]; omega
    simp [h1, hi, e]
  · have h1 : ¬ m * z.size + i < (m + c) * z.size := by rw [Nat.add_mul]; omega
    simp [h1, hi]
section
variable {P : Program} {w0 w w' : World} {L M : List Rw} {X : Nat → Obj → Prop}
/-- A row moves into a new block (or stays), and is told anew. -/
theorem Own.moved (h : Own w0 w L X) (i : Nat) {b b' : Nat} {o o' : Obj} (hi : L[i]? = some (b, o)) (hg : w.grownBy w' (some b)) (hb : w'.heap[b']? = some o') (hw : b' = b ∨ b' = w.heap.size) : Own w0 w' (L.set i (b', o')) X := by
  rcases hw with rfl | rfl
  · exact h.turn i hi hg.size hg.os hg.tape hg.output hb (fun k hk hl => hg.block k hl (fun e => hk (Option.some.inj e)))
  · have hil := (List.getElem?_eq_some_iff.1 hi).1
    have hlt : ∀ r, r ∈ L → r.1 < w.heap.size := fun r hr => (Array.getElem?_eq_some_iff.1 (h.rows r hr).2).1
    have hne : ∀ j r, j ≠ i → L[j]? = some r → r.1 ≠ b := fun j r hj hr => pairwise_ne h.apart hr hi hj
    refine ⟨⟨hg.os.trans h.below.os, hg.tape.trans h.below.tape, hg.output.trans h.below.output, Nat.le_trans h.below.size hg.size, fun k hk => ?_⟩, ?_, ?_, ?_⟩
    · have hlo := h.lo i hi
      rw [hg.block k (Nat.lt_of_lt_of_le hk h.below.size) (fun e => by have := Option.some.inj e; omega)]
      exact h.below.block k hk
    · intro r hr
      obtain ⟨j, hj⟩ := List.getElem?_of_mem hr
      rw [List.getElem?_set] at hj
      split at hj
      · cases hj; exact ⟨h.below.size, hb⟩
      · rename_i hji
        have h1 := h.rows r (List.mem_of_getElem? hj)
        exact ⟨h1.1, by rw [hg.block _ (hlt r (List.mem_of_getElem? hj)) (fun e => hne j r (fun e => hji e.symm) hj (Option.some.inj e))]; exact h1.2⟩
    · rw [List.pairwise_iff_getElem]
      intro a c ha hc hac
      rw [List.length_set] at ha hc
      have hp := List.pairwise_iff_getElem.1 h.apart a c ha hc hac
      have h1 := hlt L[a] (List.getElem_mem ha)
      have h2 := hlt L[c] (List.getElem_mem hc)
      rw [List.getElem_set, List.getElem_set]
      split
      · split
        · omega
        · show w.heap.size ≠ _
          omega
      · split
        · show _ ≠ w.heap.size
          omega
        · exact hp
    · intro k o2 hx
      have h1 := h.frame k o2 hx
      have hk := (Array.getElem?_eq_some_iff.1 h1.2.1).1
      refine ⟨h1.1, ?_, ?_⟩
      · rw [hg.block k hk (fun e => (h1.2.2 _ (List.mem_of_getElem? hi)) (Option.some.inj e).symm)]; exact h1.2.1
      · intro r hr
        obtain ⟨j, hj⟩ := List.getElem?_of_mem hr
        rw [List.getElem?_set] at hj
        split at hj
        · cases hj; show w.heap.size ≠ k; omega
        · exact h1.2.2 r (List.mem_of_getElem? hj)
theorem Own.setFull (h : Own w0 w L X) (i : Nat) {b : Nat} {t : TypeId} {z : Array Value} {l : List Value} {c : Nat} (hi : L[i]? = some (row b t (full z l c))) (j : Nat) {u : Value} (hu : l[j]? = some u) (v : Value) : Own w0 (w.setCell ⟨b, j, none⟩ v) (L.set i (row b t (full z (l.set j v) c))) X := by
  have := h.set i hi j v
  rwa [full_set hu v] at this
theorem oneAll {l : List Value} (h : l.all (·.oneCell') = true) : ∀ u ∈ l, u.oneCell' = true := fun u hu => List.all_eq_true.1 h u hu
theorem add_cell (b j : Nat) (w : World) : w.cell? ((⟨b, 0, none⟩ : Addr).add j) = w.cell? ⟨b, j, none⟩ := by rw [Addr.add_lit]; simp
/-- An append of elements that lie in a row of their own (place 1) to a row with room, or without (place 0). -/
theorem run_append_full (t ty e : TypeId) (i : TypeInfo) (z : Value) (size bytes : Nat) (ht : P.underlying t = some (.slice e)) (hi : P.info? e = some i) (hz : i.zero = some z)
    (hsize : i.size = size) (hby : i.bytes = bytes) (hzs : z.cells.size = size) (hsz : 0 < size)
    {g n cp c ad m mc te : Nat} {l news : List Value} (h : Own w0 w [row g e (full z.cells l c), row ad te news.toArray] X) (hl : l.length = n * size) (hcp : cp = n + c)
    (hn : news.length = m * size) (h1 : ∀ u ∈ news, u.oneCell' = true) (h63 : n + m ≤ maxLen) (hbytes : (n + m) * bytes ≤ 140737488355328) :
    ∃ g' c' w', (Builtin.append_ #[t, t] ty #[.slice (some ⟨g, 0, none⟩) n cp, .slice (some ⟨ad, 0, none⟩) m mc]).run P w = .ok (.slice (some ⟨g', 0, none⟩) (n + m) (n + m + c')) w' ∧
      Own w0 w' [row g' e (full z.cells (l ++ news) c'), row ad te news.toArray] X := by
  subst hsize
  subst hby
  subst hcp
  have hg := h.rowAt 0 rfl
  have hnews : ∀ j u, news[j]? = some u → w.cell? ((⟨ad, 0, none⟩ : Addr).add j) = some u := fun j u hj => by
    rw [add_cell]
    exact h.cell 1 rfl j (by simpa using hj)
  by_cases hroom : m ≤ c
  · obtain ⟨c', rfl⟩ := Nat.exists_eq_add_of_le hroom
    have hfs : (full z.cells l (m + c')).size = n * i.size + (m + c') * i.size := by unfold full; simp [size_zeroCells, hzs, hl]
    have hr := run_append_room (P := P) w t ty e i ht hi g n (n + (m + c')) _ hg ⟨ad, 0, none⟩ m mc news hn hnews h1 (by omega) (by rw [hfs, hn, Nat.add_mul m]; omega)
    have e1 : ((full z.cells l (m + c')).toList.take (n * i.size) ++ news ++ (full z.cells l (m + c')).toList.drop (n * i.size + news.length)).toArray = full z.cells (l ++ news) c' := by
      unfold full
      simp only [Array.toList_append]
      rw [← hl, List.take_left, ← List.drop_drop, List.drop_left, hn, ← hzs, zeroCells_drop]
      apply Array.ext'
      simp
    rw [e1] at hr
    refine ⟨g, c', _, by rw [hr]; congr 2; omega, ?_⟩
    exact h.moved 0 rfl ⟨rfl, rfl, rfl, by simp, fun k _ hk => setRow_other w g k _ (fun e => hk (by rw [e]))⟩ (setRow_heap w g _ _ e _ hg) (Or.inl rfl)
  · have holds : ∀ j u, l[j]? = some u → w.cell? ((⟨g, 0, none⟩ : Addr).add j) = some u := fun j u hj => by
      rw [add_cell]
      exact h.cell 0 rfl j (full_at hj)
    have hr := run_append_grow (P := P) w t ty e i z ht hi hz ⟨g, 0, none⟩ n (n + c) l hl holds ⟨ad, 0, none⟩ m mc news hn hnews (by omega) (by simp only [maxLen] at h63; omega) (growslice_fits (by omega) hbytes)
    have hge := grownCap_ge w (n + m) (n + c) e
    obtain ⟨c', hc'⟩ := Nat.exists_eq_add_of_le hge
    have e2 : l.toArray ++ news.toArray ++ Builtin.zeroCells z.cells (grownCap w (n + m) (n + c) e - (n + m)) = full z.cells (l ++ news) c' := by
      unfold full
      rw [hc', show n + m + c' - (n + m) = c' by omega]
      simp
    rw [e2, hc'] at hr
    refine ⟨_, c', _, hr, ?_⟩
    refine h.moved 0 rfl ⟨rfl, rfl, rfl, by simp, fun k hk _ => heap_alloc_old w.drew _ hk⟩ (heap_alloc_new w.drew _) (Or.inr rfl)
/-- The same, to a slice that is nil: a new row. -/
theorem run_append_full_nil (t ty e : TypeId) (i : TypeInfo) (z : Value) (size bytes : Nat) (ht : P.underlying t = some (.slice e)) (hi : P.info? e = some i) (hz : i.zero = some z)
    (hsize : i.size = size) (hby : i.bytes = bytes) {ad m mc te : Nat} {news : List Value} (h : Own w0 w [row ad te news.toArray] X)
    (hn : news.length = m * size) (h0 : 0 < m) (h63 : m ≤ maxLen) (hbytes : m * bytes ≤ 140737488355328) :
    ∃ g' c' w', (Builtin.append_ #[t, t] ty #[.slice none 0 0, .slice (some ⟨ad, 0, none⟩) m mc]).run P w = .ok (.slice (some ⟨g', 0, none⟩) m (m + c')) w' ∧
      Own w0 w' [row g' e (full z.cells news c'), row ad te news.toArray] X := by
  subst hsize
  subst hby
  have hnews : ∀ j u, news[j]? = some u → w.cell? ((⟨ad, 0, none⟩ : Addr).add j) = some u := fun j u hj => by
    rw [add_cell]
    exact h.cell 0 rfl j (by simpa using hj)
  have hr := run_append_nil (P := P) w t ty e i z ht hi hz ⟨ad, 0, none⟩ m mc news hn hnews h0 (by simp only [maxLen] at h63; omega) (by omega)
  have hge := grownCap_ge w m 0 e
  obtain ⟨c', hc'⟩ := Nat.exists_eq_add_of_le hge
  have e2 : news.toArray ++ Builtin.zeroCells z.cells (grownCap w m 0 e - m) = full z.cells news c' := by
    unfold full
    rw [hc', show m + c' - m = c' by omega]
  rw [e2, hc'] at hr
  exact ⟨_, c', _, hr, h.drew.alloc _⟩
/-- At the operation. -/
theorem wp_append_full {o : Oper} {a : Act} {K : Act → World → Prop} {Q : Exit → Act → World → Prop} (s x : Operand) (t : TypeId) (ho : o.op = .call { callee := .builtin .append, args := #[s, x], argTypes := #[t, t] })
    (e : TypeId) (i : TypeInfo) (z : Value) (size bytes : Nat) (ht : P.underlying t = some (.slice e)) (hi : P.info? e = some i) (hz : i.zero = some z)
    (hsize : i.size = size) (hby : i.bytes = bytes) (hzs : z.cells.size = size) (hsz : 0 < size)
    {g n cp c ad m mc te : Nat} {l news : List Value} (h : Own w0 w [row g e (full z.cells l c), row ad te news.toArray] X) (hs : a.eval s = .slice (some ⟨g, 0, none⟩) n cp) (hx : a.eval x = .slice (some ⟨ad, 0, none⟩) m mc)
    (hl : l.length = n * size) (hcp : cp = n + c) (hn : news.length = m * size) (h1 : ∀ u ∈ news, u.oneCell' = true) (h63 : n + m ≤ maxLen) (hbytes : (n + m) * bytes ≤ 140737488355328)
    (hK : ∀ g' c' w', Own w0 w' [row g' e (full z.cells (l ++ news) c'), row ad te news.toArray] X → K (a.put o.dst (.slice (some ⟨g', 0, none⟩) (n + m) (n + m + c'))) w') : o.wp P a w K Q := by
  obtain ⟨g', c', w', hr, hO⟩ := run_append_full (P := P) t o.type e i z size bytes ht hi hz hsize hby hzs hsz (mc := mc) h hl hcp hn h1 h63 hbytes
  unfold Oper.wp execOp
  simp only [ho, resolve, invoke, builtin, Sem.run_bind, Sem.run_pure, Result.andThen_ok, List.map_toArray, List.map_cons, List.map_nil, hs, hx, hr]
  exact hK g' c' w' hO
theorem wp_append_full_nil {o : Oper} {a : Act} {K : Act → World → Prop} {Q : Exit → Act → World → Prop} (s x : Operand) (t : TypeId) (ho : o.op = .call { callee := .builtin .append, args := #[s, x], argTypes := #[t, t] })
    (e : TypeId) (i : TypeInfo) (z : Value) (size bytes : Nat) (ht : P.underlying t = some (.slice e)) (hi : P.info? e = some i) (hz : i.zero = some z)
    (hsize : i.size = size) (hby : i.bytes = bytes)
    {ad m mc te : Nat} {news : List Value} (h : Own w0 w [row ad te news.toArray] X) (hs : a.eval s = .slice none 0 0) (hx : a.eval x = .slice (some ⟨ad, 0, none⟩) m mc)
    (hn : news.length = m * size) (h0 : 0 < m) (h63 : m ≤ maxLen) (hbytes : m * bytes ≤ 140737488355328)
    (hK : ∀ g' c' w', Own w0 w' [row g' e (full z.cells news c'), row ad te news.toArray] X → K (a.put o.dst (.slice (some ⟨g', 0, none⟩) m (m + c'))) w') : o.wp P a w K Q := by
  obtain ⟨g', c', w', hr, hO⟩ := run_append_full_nil (P := P) t o.type e i z size bytes ht hi hz hsize hby (mc := mc) h hn h0 h63 hbytes
  unfold Oper.wp execOp
  simp only [ho, resolve, invoke, builtin, Sem.run_bind, Sem.run_pure, Result.andThen_ok, List.map_toArray, List.map_cons, List.map_nil, hs, hx, hr]
  exact hK g' c' w' hO
end
/-- A look-up of a key that is not there. -/
theorem wpList_lookup_no {P : Program} {ops : Array Oper} {Q : Exit → Act → World → Prop} {rest : List Oper} {a : Act} {w : World} {o : Oper} (hg : o.guard = none) (m x : Operand) (t : TypeId) (ok : Bool) (hop : o.op = Op.lookup t m x ok) (k e : TypeId) (ht : P.underlying t = some (.map k e)) (hk : P.underlying k = some .string) {r : Nat} {es : Array MapEntry} {c : Nat} (h : Base.MapAt w r es c) (hm : a.eval m = .map (some r)) (s : ByteArray) (hx : a.eval x = .string s) (z : Value) (hz : (zeroValue e).run P w = .ok z w)
    (hf : Instr.findNow .string (.string s) es.toList 0 = some none) (hK : wpList P ops Q rest (a.put o.dst (if ok then .tuple #[z, .bool false] else z)) w) : wpList P ops Q (o :: rest) a w :=
  wpList_plain hg fun _ hK' => by
    unfold Oper.wp
    simp [execOp, hop, hm, hx, Base.run_lookup_no w ht hk h s z hz hf ok, Result.andThen]
    exact hK' _ _ hK
end Go.Proofs.YtikopplofkemlaaDoor.Own
namespace Go.Proofs.YtikopplofkemlaaDoor.Own
open Go.RowKit
theorem full_empty (z : Array Value) (n : Nat) : full z [] n = Builtin.zeroCells z n := by simp [full]
theorem made_full (z : Array Value) (n : Nat) : madeCells z (n * z.size) = full z [] n := by
  rw [full_empty]
  rfl
/-- make([]T, l, c). -/
theorem run_mk_full {P : Program} (w : World) (t e : TypeId) (i : TypeInfo) (z : Value) (size bytes : Nat) (ht : P.underlying t = some (.slice e)) (hi : P.info? e = some i) (hz : i.zero = some z) (hs : i.size = size) (hb : i.bytes = bytes) (hzs : z.cells.size = size)
    (kl kc : IntKind) (l c : Nat) (hlc : l ≤ c) (hbytes : bytes * c ≤ 281474976710656) (h63 : c ≤ 9223372036854775807) :
    (Instr.makeSlice t (.int kl (l : Int)) (.int kc (c : Int))).run P w = .ok (.slice (some ⟨w.heap.size, 0, none⟩) l c) (w.alloc (.cells (full z.cells [] c) e)) := by
  subst hs
  subst hb
  have h := run_make (P := P) w t e i z ht hi hz kl kc (l : Int) (c : Int) (by omega) (by omega) (by have h5 : ((i.bytes * c : Nat) : Int) ≤ ((281474976710656 : Nat) : Int) := Int.ofNat_le.2 hbytes; rw [Int.natCast_mul] at h5; exact h5) (by omega)
  simp only [Int.toNat_natCast] at h
  rw [h, ← hzs, made_full]
theorem zeroCells_succ (z : Array Value) (c : Nat) : (Builtin.zeroCells z (c + 1)).toList = z.toList ++ (Builtin.zeroCells z c).toList := by
  have h := zeroCells_drop z 1 c
  rw [Nat.one_mul, Nat.add_comm 1 c] at h
  rw [← List.take_append_drop z.size (Builtin.zeroCells z (c + 1)).toList, h]
  congr 1
  apply List.ext_getElem?
  intro i
  rw [List.getElem?_take]
  by_cases hi : i < z.size
  · have h1 : i < (c + 1) * z.size := by rw [Nat.add_mul]; omega
    simp [Builtin.zeroCells, h1, hi, Nat.mod_eq_of_lt hi]
  · simp [hi]
theorem setAll_list (l m r vs : List Value) (h : vs.length = m.length) : setAll (l ++ m ++ r).toArray l.length vs = (l ++ vs ++ r).toArray := by
  induction vs generalizing l m with
  | nil =>
    have : m = [] := List.length_eq_zero_iff.1 h.symm
    subst this
    rfl
  | cons v vs ih =>
    match m, h with
    | x :: m, h =>
      have h' : vs.length = m.length := by simpa using h
      have e : ((l ++ x :: m ++ r).toArray.setIfInBounds l.length v) = ((l ++ [v]) ++ m ++ r).toArray := by
        apply Array.ext'
        simp
      show setAll ((l ++ x :: m ++ r).toArray.setIfInBounds l.length v) (l.length + 1) vs = _
      rw [e]
      have := ih (l ++ [v]) m h'
      rw [List.length_append] at this
      show setAll ((l ++ [v]) ++ m ++ r).toArray (l.length + 1) vs = _
      rw [show l.length + 1 = l.length + [v].length from rfl, this]
      simp
/-- The next element is told. -/
theorem full_next {z : Array Value} {l : List Value} {c : Nat} (vs : List Value) (hv : vs.length = z.size) : setAll (full z l (c + 1)) l.length vs = full z (l ++ vs) c := by
  have h := setAll_list l z.toList (Builtin.zeroCells z c).toList vs (by simpa using hv)
  unfold full
  have e1 : l.toArray ++ Builtin.zeroCells z (c + 1) = (l ++ z.toList ++ (Builtin.zeroCells z c).toList).toArray := by
    apply Array.ext'
    simp [zeroCells_succ]
  have e2 : (l ++ vs).toArray ++ Builtin.zeroCells z c = (l ++ vs ++ (Builtin.zeroCells z c).toList).toArray := by
    apply Array.ext'
    simp
  rw [e1, e2, h]
theorem full_next1 {z : Array Value} {l : List Value} {c : Nat} (v : Value) (hz : z.size = 1) : (full z l (c + 1)).setIfInBounds l.length v = full z (l ++ [v]) c := full_next [v] hz.symm
theorem full_next2 {z : Array Value} {l : List Value} {c : Nat} (u v : Value) (hz : z.size = 2) : ((full z l (c + 1)).setIfInBounds l.length u).setIfInBounds (l.length + 1) v = full z (l ++ [u, v]) c := full_next [u, v] hz.symm
/-- The first n values of f. -/
def tab (f : Nat → List Value) (n : Nat) : List Value := (List.range n).flatMap f
theorem tab_succ (f : Nat → List Value) (n : Nat) : tab f (n + 1) = tab f n ++ f n := by simp [tab, List.range_succ]
theorem tab_length {f : Nat → List Value} {k : Nat} (hf : ∀ i, (f i).length = k) : ∀ n, (tab f n).length = n * k
  | 0 => by simp [tab]
  | n + 1 => by rw [tab_succ, List.length_append, tab_length hf n, hf]; rw [Nat.add_mul]; omega
theorem tab_at {f : Nat → List Value} {k : Nat} (hf : ∀ i, (f i).length = k) {n i o : Nat} {v : Value} (hi : i < n) (ho : (f i)[o]? = some v) : (tab f n)[i * k + o]? = some v := by
  induction n with
  | zero => omega
  | succ n ih =>
    have hok : o < k := by rw [← hf i]; exact (List.getElem?_eq_some_iff.1 ho).1
    rw [tab_succ]
    by_cases h : i < n
    · have hm : (i + 1) * k ≤ n * k := Nat.mul_le_mul_right k h
      rw [Nat.add_mul] at hm
      rw [List.getElem?_append_left (by rw [tab_length hf]; omega)]
      exact ih h
    · have : i = n := by omega
      subst this
      rw [List.getElem?_append_right (by rw [tab_length hf]; omega), tab_length hf, Nat.add_sub_cancel_left]
      exact ho
theorem tab_congr {f g : Nat → List Value} {n : Nat} (h : ∀ i, i < n → f i = g i) : tab f n = tab g n := by
  induction n with
  | zero => rfl
  | succ n ih => rw [tab_succ, tab_succ, ih (fun i hi => h i (by omega)), h n (by omega)]
theorem full_room {z : Array Value} {l : List Value} {c o : Nat} {v : Value} (hv : z[o]? = some v) : (full z l (c + 1))[l.length + o]? = some v := by
  have ho := (Array.getElem?_eq_some_iff.1 hv).1
  unfold full
  rw [Array.getElem?_append_right (by simp)]
  simp only [List.size_toArray, Nat.add_sub_cancel_left]
  rw [← Array.getElem?_toList, zeroCells_succ, List.getElem?_append_left (by simpa using ho)]
  simpa using hv
section
variable {w0 w w' : World} {L M : List Rw} {X : Nat → Obj → Prop}
theorem Own.next1 (h : Own w0 w L X) (i : Nat) {b : Nat} {t : TypeId} {z : Array Value} {l : List Value} {c : Nat} (hi : L[i]? = some (row b t (full z l (c + 1)))) (hz : z.size = 1) (j : Nat) (hj : j = l.length) (v : Value) :
    Own w0 (w.setCell ⟨b, j, none⟩ v) (L.set i (row b t (full z (l ++ [v]) c))) X := by
  subst hj
  have := h.set i hi l.length v
  rwa [full_next1 v hz] at this
/-- A row of the frame is taken out of it. -/
theorem Own.take (h : Own w0 w L X) {b : Nat} {o : Obj} (hx : X b o) : Own w0 w ((b, o) :: L) (fun b' o' => X b' o' ∧ b' ≠ b) := by
  have hf := h.frame b o hx
  refine ⟨h.below, fun r hr => ?_, List.pairwise_cons.2 ⟨fun r hr => (hf.2.2 r hr).symm, h.apart⟩, fun b' o' hx' => ?_⟩
  · rcases List.mem_cons.1 hr with rfl | hr
    · exact ⟨hf.1, hf.2.1⟩
    · exact h.rows r hr
  · have hf' := h.frame b' o' hx'.1
    refine ⟨hf'.1, hf'.2.1, fun r hr => ?_⟩
    rcases List.mem_cons.1 hr with rfl | hr
    · exact hx'.2.symm
    · exact hf'.2.2 r hr
/-- The first row is laid into the frame. -/
theorem Own.give {b : Nat} {o : Obj} (h : Own w0 w ((b, o) :: L) X) {Y : Nat → Obj → Prop} (hY : ∀ b' o', Y b' o' → X b' o' ∨ (b' = b ∧ o' = o)) : Own w0 w L Y := by
  have h0 := h.rows (b, o) List.mem_cons_self
  have hp := List.pairwise_cons.1 h.apart
  refine ⟨h.below, fun r hr => h.rows r (List.mem_cons_of_mem _ hr), hp.2, fun b' o' hy => ?_⟩
  rcases hY b' o' hy with hx | ⟨rfl, rfl⟩
  · have hf := h.frame b' o' hx
    exact ⟨hf.1, hf.2.1, fun r hr => hf.2.2 r (List.mem_cons_of_mem _ hr)⟩
  · exact ⟨h0.1, h0.2, fun r hr => (hp.1 r hr).symm⟩
theorem Own.weaken (h : Own w0 w L X) {Y : Nat → Obj → Prop} (hY : ∀ b o, Y b o → X b o) : Own w0 w L Y := ⟨h.below, h.rows, h.apart, fun b o hy => h.frame b o (hY b o hy)⟩
end
end Go.Proofs.YtikopplofkemlaaDoor.Own
namespace Go.Proofs.YtikopplofkemlaaDoor.Own
open Go.RowKit
set_option linter.unusedVariables false
/-- The walk stands at an append. -/
structure AppStop (p : Prop) : Prop where
  mk ::
  out : p
theorem appStop {p : Prop} (h : AppStop p) : p := h.out
section
variable {P : Program} {ops : Array Oper} {rest : List Oper} {w0 w : World} {X : Nat → Obj → Prop}
theorem wpList_append_full {o : Oper} {a : Act} {Q : Exit → Act → World → Prop} (hg : o.guard = none) (s x : Operand) (t : TypeId) (ho : o.op = .call { callee := .builtin .append, args := #[s, x], argTypes := #[t, t] })
    (e : TypeId) (i : TypeInfo) (z : Value) (size bytes : Nat) (ht : P.underlying t = some (.slice e)) (hi : P.info? e = some i) (hz : i.zero = some z)
    (hsize : i.size = size) (hby : i.bytes = bytes) (hzs : z.cells.size = size) (hsz : 0 < size)
    {g n cp c ad m mc te : Nat} {l news : List Value} (h : Own w0 w [row g e (full z.cells l c), row ad te news.toArray] X) (hs : a.eval s = .slice (some ⟨g, 0, none⟩) n cp) (hx : a.eval x = .slice (some ⟨ad, 0, none⟩) m mc)
    (hl : l.length = n * size) (hcp : cp = n + c) (hn : news.length = m * size) (h1 : ∀ u ∈ news, u.oneCell' = true) (h63 : n + m ≤ maxLen) (hbytes : (n + m) * bytes ≤ 140737488355328)
    (hK : ∀ g' c' w', Own w0 w' [row g' e (full z.cells (l ++ news) c'), row ad te news.toArray] X → wpList P ops Q rest (a.put o.dst (.slice (some ⟨g', 0, none⟩) (n + m) (n + m + c'))) w') : wpList P ops Q (o :: rest) a w :=
  wpList_plain hg fun _ hK' => wp_append_full s x t ho e i z size bytes ht hi hz hsize hby hzs hsz h hs hx hl hcp hn h1 h63 hbytes fun g' c' w' hO => hK' _ _ (hK g' c' w' hO)
end
end Go.Proofs.YtikopplofkemlaaDoor.Own
