/- Ownership, more: rows that are a list of cells with spare room behind it, and an append to such a row. No condition. -/
import Derived.Test.YtghofdhhhbbaaaaGreatDoorOwnK
import Derived.OwnWalk
namespace Go.Proofs.YtghofdhhhbbaaaaGreatDoor.Own
open Go.RowKit
/-- The cells of l, and room for c more elements (each of them holds z). -/
def full (z : Array Value) (l : List Value) (c : Nat) : Array Value := l.toArray ++ Builtin.zeroCells z c
theorem full_at {z : Array Value} {l : List Value} {c i : Nat} {v : Value} (h : l[i]? = some v) : (full z l c)[i]? = some v := by
  obtain ⟨hi, hv⟩ := List.getElem?_eq_some_iff.1 h
  unfold full
  rw [Array.getElem?_append_left (by simpa using hi)]
  simpa using h
theorem full_set {z : Array Value} {l : List Value} {c i : Nat} {u : Value} (h : l[i]? = some u) (v : Value) : (full z l c).setIfInBounds i v = full z (l.set i v) c := by
  obtain ⟨hi, hv⟩ := List.getElem?_eq_some_iff.1 h
  unfold full
  apply Array.ext'
  simp only [Array.toList_setIfInBounds, Array.toList_append]
  rw [List.set_append_left _ _ (by simpa using hi)]
theorem set_get {l : List Value} {i : Nat} {u : Value} (h : l[i]? = some u) (v : Value) : (l.set i v)[i]? = some v := by
  obtain ⟨hi, _⟩ := List.getElem?_eq_some_iff.1 h
  simp [hi]
theorem set_other {l : List Value} {i j : Nat} {u : Value} (h : l[i]? = some u) (hij : j ≠ i) (v : Value) : (l.set j v)[i]? = some u := by
  rw [List.getElem?_set_ne hij]; exact h
theorem full_nil (z : Array Value) (l : List Value) : full z l 0 = l.toArray := by
  unfold full
  have : Builtin.zeroCells z 0 = #[] := by simp [Builtin.zeroCells]
  rw [this]
  simp
theorem zeroCells_drop (z : Array Value) (m c : Nat) : (Builtin.zeroCells z (m + c)).toList.drop (m * z.size) = (Builtin.zeroCells z c).toList := by
  apply List.ext_getElem?
  intro i
  simp only [Builtin.zeroCells, Array.toList_map, Array.toList_range, List.getElem?_drop, List.getElem?_map]
  have e : (m * z.size + i) % z.size = i % z.size := by rw [Nat.mul_comm, Nat.mul_add_mod]
  by_cases hi : i < c * z.size
  · have h1 : m * z.size + i < (m + c) * z.size := by rw [Nat.add_mul]; omega
    simp [h1, hi, e]
  · have h1 : ¬ m * z.size + i < (m + c) * z.size := by rw [Nat.add_mul]; omega
    simp [h1, hi]
section
variable {P : Program} {w0 w w' : World} {L M : List Rw} {X : Nat → Obj → Prop}
/-- A row moves into a new block (or stays), and is told anew. -/
theorem Own.moved (h : Own w0 w L X) (i : Nat) {b b' : Nat} {o o' : Obj} (hi : L[i]? = some (b, o)) (hg : w.grownBy w' (some b)) (hb : w'.heap[b']? = some o') (hw : b' = b ∨ b' = w.heap.size) : Own w0 w' (L.set i (b', o')) X := by
  rcases hw with rfl | rfl
  · exact h.turn i hi hg.size hg.os hg.tape hg.output hb (fun k hk hl => hg.block k hl (fun e => hk (Option.some.inj e)))
  · have hil := (List.getElem?_eq_some_iff.1 hi).1
    have hlt : ∀ r, r ∈ L → r.1 < w.heap.size := fun r hr => (Array.getElem?_eq_some_iff.1 (h.rows r hr).2).1
    have hne : ∀ j r, j ≠ i → L[j]? = some r → r.1 ≠ b := fun j r hj hr => pairwise_ne h.apart hr hi hj
    refine ⟨⟨hg.os.trans h.below.os, hg.tape.trans h.below.tape, hg.output.trans h.below.output, Nat.le_trans h.below.size hg.size, fun k hk => ?_⟩, ?_, ?_, ?_⟩
    · have hlo := h.lo i hi
      rw [hg.block k (Nat.lt_of_lt_of_le hk h.below.size) (fun e => by have := Option.some.inj e; omega)]
      exact h.below.block k hk
    · intro r hr
      obtain ⟨j, hj⟩ := List.getElem?_of_mem hr
      rw [List.getElem?_set] at hj
      split at hj
      · cases hj; exact ⟨h.below.size, hb⟩
      · rename_i hji
        have h1 := h.rows r (List.mem_of_getElem? hj)
        exact ⟨h1.1, by rw [hg.block _ (hlt r (List.mem_of_getElem? hj)) (fun e => hne j r (fun e => hji e.symm) hj (Option.some.inj e))]; exact h1.2⟩
    · rw [List.pairwise_iff_getElem]
      intro a c ha hc hac
      rw [List.length_set] at ha hc
      have hp := List.pairwise_iff_getElem.1 h.apart a c ha hc hac
      have h1 := hlt L[a] (List.getElem_mem ha)
      have h2 := hlt L[c] (List.getElem_mem hc)
      rw [List.getElem_set, List.getElem_set]
      split
      · split
        · omega
        · show w.heap.size ≠ _
          omega
      · split
        · show _ ≠ w.heap.size
          omega
        · exact hp
    · intro k o2 hx
      have h1 := h.frame k o2 hx
      have hk := (Array.getElem?_eq_some_iff.1 h1.2.1).1
      refine ⟨h1.1, ?_, ?_⟩
      · rw [hg.block k hk (fun e => (h1.2.2 _ (List.mem_of_getElem? hi)) (Option.some.inj e).symm)]; exact h1.2.1
      · intro r hr
        obtain ⟨j, hj⟩ := List.getElem?_of_mem hr
        rw [List.getElem?_set] at hj
        split at hj
        · cases hj; show w.heap.size ≠ k; omega
        · exact h1.2.2 r (List.mem_of_getElem? hj)
theorem Own.setFull (h : Own w0 w L X) (i : Nat) {b : Nat} {t : TypeId} {z : Array Value} {l : List Value} {c : Nat} (hi : L[i]? = some (row b t (full z l c))) (j : Nat) {u : Value} (hu : l[j]? = some u) (v : Value) : Own w0 (w.setCell ⟨b, j, none⟩ v) (L.set i (row b t (full z (l.set j v) c))) X := by
  have := h.set i hi j v
  rwa [full_set hu v] at this
theorem oneAll {l : List Value} (h : l.all (·.oneCell') = true) : ∀ u ∈ l, u.oneCell' = true := fun u hu => List.all_eq_true.1 h u hu
theorem add_cell (b j : Nat) (w : World) : w.cell? ((⟨b, 0, none⟩ : Addr).add j) = w.cell? ⟨b, j, none⟩ := by rw [Addr.add_lit]; simp
/-- An append of elements that lie in a row of their own (place 1) to a row with room, or without (place 0). -/
theorem run_append_full (t ty e : TypeId) (i : TypeInfo) (z : Value) (size bytes : Nat) (ht : P.underlying t = some (.slice e)) (hi : P.info? e = some i) (hz : i.zero = some z)
    (hsize : i.size = size) (hby : i.bytes = bytes) (hzs : z.cells.size = size) (hsz : 0 < size)
    {g n cp c ad m mc te : Nat} {l news : List Value} (h : Own w0 w [row g e (full z.cells l c), row ad te news.toArray] X) (hl : l.length = n * size) (hcp : cp = n + c)
    (hn : news.length = m * size) (h1 : ∀ u ∈ news, u.oneCell' = true) (h63 : n + m ≤ maxLen) (hbytes : (n + m) * bytes ≤ 140737488355328) :
    ∃ g' c' w', (Builtin.append_ #[t, t] ty #[.slice (some ⟨g, 0, none⟩) n cp, .slice (some ⟨ad, 0, none⟩) m mc]).run P w = .ok (.slice (some ⟨g', 0, none⟩) (n + m) (n + m + c')) w' ∧
      Own w0 w' [row g' e (full z.cells (l ++ news) c'), row ad te news.toArray] X := by
  subst hsize
  subst hby
  subst hcp
  have hg := h.rowAt 0 rfl
  have hnews : ∀ j u, news[j]? = some u → w.cell? ((⟨ad, 0, none⟩ : Addr).add j) = some u := fun j u hj => by
    rw [add_cell]
    exact h.cell 1 rfl j (by simpa using hj)
  by_cases hroom : m ≤ c
  · obtain ⟨c', rfl⟩ := Nat.exists_eq_add_of_le hroom
    have hfs : (full z.cells l (m + c')).size = n * i.size + (m + c') * i.size := by unfold full; simp [size_zeroCells, hzs, hl]
    have hr := run_append_room (P := P) w t ty e i ht hi g n (n + (m + c')) _ hg ⟨ad, 0, none⟩ m mc news hn hnews h1 (by omega) (by rw [hfs, hn, Nat.add_mul m]; omega)
    have e1 : ((full z.cells l (m + c')).toList.take (n * i.size) ++ news ++ (full z.cells l (m + c')).toList.drop (n * i.size + news.length)).toArray = full z.cells (l ++ news) c' := by
      unfold full
      simp only [Array.toList_append]
      rw [← hl, List.take_left, ← List.drop_drop, List.drop_left, hn, ← hzs, zeroCells_drop]
      apply Array.ext'
      simp
    rw [e1] at hr
    refine ⟨g, c', _, by rw [hr]; congr 2; omega, ?_⟩
    exact h.moved 0 rfl ⟨rfl, rfl, rfl, by simp, fun k _ hk => setRow_other w g k _ (fun e => hk (by rw [e]))⟩ (setRow_heap w g _ _ e _ hg) (Or.inl rfl)
  · have holds : ∀ j u, l[j]? = some u → w.cell? ((⟨g, 0, none⟩ : Addr).add j) = some u := fun j u hj => by
      rw [add_cell]
      exact h.cell 0 rfl j (full_at hj)
    have hr := run_append_grow (P := P) w t ty e i z ht hi hz ⟨g, 0, none⟩ n (n + c) l hl holds ⟨ad, 0, none⟩ m mc news hn hnews (by omega) (by simp only [maxLen] at h63; omega) (growslice_fits (by omega) hbytes)
    have hge := grownCap_ge w (n + m) (n + c) e
    obtain ⟨c', hc'⟩ := Nat.exists_eq_add_of_le hge
    have e2 : l.toArray ++ news.toArray ++ Builtin.zeroCells z.cells (grownCap w (n + m) (n + c) e - (n + m)) = full z.cells (l ++ news) c' := by
      unfold full
      rw [hc', show n + m + c' - (n + m) = c' by omega]
      simp
    rw [e2, hc'] at hr
    refine ⟨_, c', _, hr, ?_⟩
    refine h.moved 0 rfl ⟨rfl, rfl, rfl, by simp, fun k hk _ => heap_alloc_old w.drew _ hk⟩ (heap_alloc_new w.drew _) (Or.inr rfl)
/-- The same, to a slice that is nil: a new row. -/
theorem run_append_full_nil (t ty e : TypeId) (i : TypeInfo) (z : Value) (size bytes : Nat) (ht : P.underlying t = some (.slice e)) (hi : P.info? e = some i) (hz : i.zero = some z)
    (hsize : i.size = size) (hby : i.bytes = bytes) {ad m mc te : Nat} {news : List Value} (h : Own w0 w [row ad te news.toArray] X)
    (hn : news.length = m * size) (h0 : 0 < m) (h63 : m ≤ maxLen) (hbytes : m * bytes ≤ 140737488355328) :
    ∃ g' c' w', (Builtin.append_ #[t, t] ty #[.slice none 0 0, .slice (some ⟨ad, 0, none⟩) m mc]).run P w = .ok (.slice (some ⟨g', 0, none⟩) m (m + c')) w' ∧
      Own w0 w' [row g' e (full z.cells news c'), row ad te news.toArray] X := by
  subst hsize
  subst hby
  have hnews : ∀ j u, news[j]? = some u → w.cell? ((⟨ad, 0, none⟩ : Addr).add j) = some u := fun j u hj => by
    rw [add_cell]
    exact h.cell 0 rfl j (by simpa using hj)
  have hr := run_append_nil (P := P) w t ty e i z ht hi hz ⟨ad, 0, none⟩ m mc news hn hnews h0 (by simp only [maxLen] at h63; omega) (by omega)
  have hge := grownCap_ge w m 0 e
  obtain ⟨c', hc'⟩ := Nat.exists_eq_add_of_le hge
  have e2 : news.toArray ++ Builtin.zeroCells z.cells (grownCap w m 0 e - m) = full z.cells news c' := by
    unfold full
    rw [hc', show m + c' - m = c' by omega]
  rw [e2, hc'] at hr
  exact ⟨_, c', _, hr, h.drew.alloc _⟩
/-- At the operation. -/
theorem wp_append_full {o : Oper} {a : Act} {K : Act → World → Prop} {Q : Exit → Act → World → Prop} (s x : Operand) (t : TypeId) (ho : o.op = .call { callee := .builtin .append, args := #[s, x], argTypes := #[t, t] })
    (e : TypeId) (i : TypeInfo) (z : Value) (size bytes : Nat) (ht : P.underlying t = some (.slice e)) (hi : P.info? e = some i) (hz : i.zero = some z)
    (hsize : i.size = size) (hby : i.bytes = bytes) (hzs : z.cells.size = size) (hsz : 0 < size)
    {g n cp c ad m mc te : Nat} {l news : List Value} (h : Own w0 w [row g e (full z.cells l c), row ad te news.toArray] X) (hs : a.eval s = .slice (some ⟨g, 0, none⟩) n cp) (hx : a.eval x = .slice (some ⟨ad, 0, none⟩) m mc)
    (hl : l.length = n * size) (hcp : cp = n + c) (hn : news.length = m * size) (h1 : ∀ u ∈ news, u.oneCell' = true) (h63 : n + m ≤ maxLen) (hbytes : (n + m) * bytes ≤ 140737488355328)
    (hK : ∀ g' c' w', Own w0 w' [row g' e (full z.cells (l ++ news) c'), row ad te news.toArray] X → K (a.put o.dst (.slice (some ⟨g', 0, none⟩) (n + m) (n + m + c'))) w') : o.wp P a w K Q := by
  obtain ⟨g', c', w', hr, hO⟩ := run_append_full (P := P) t o.type e i z size bytes ht hi hz hsize hby hzs hsz (mc := mc) h hl hcp hn h1 h63 hbytes
  unfold Oper.wp execOp
  simp only [ho, resolve, invoke, builtin, Sem.run_bind, Sem.run_pure, Result.andThen_ok, List.map_toArray, List.map_cons, List.map_nil, hs, hx, hr]
  exact hK g' c' w' hO
theorem wp_append_full_nil {o : Oper} {a : Act} {K : Act → World → Prop} {Q : Exit → Act → World → Prop} (s x : Operand) (t : TypeId) (ho : o.op = .call { callee := .builtin .append, args := #[s, x], argTypes := #[t, t] })
    (e : TypeId) (i : TypeInfo) (z : Value) (size bytes : Nat) (ht : P.underlying t = some (.slice e)) (hi : P.info? e = some i) (hz : i.zero = some z)
    (hsize : i.size = size) (hby : i.bytes = bytes)
    {ad m mc te : Nat} {news : List Value} (h : Own w0 w [row ad te news.toArray] X) (hs : a.eval s = .slice none 0 0) (hx : a.eval x = .slice (some ⟨ad, 0, none⟩) m mc)
    (hn : news.length = m * size) (h0 : 0 < m) (h63 : m ≤ maxLen) (hbytes : m * bytes ≤ 140737488355328)
    (hK : ∀ g' c' w', Own w0 w' [row g' e (full z.cells news c'), row ad te news.toArray] X → K (a.put o.dst (.slice (some ⟨g', 0, none⟩) m (m + c'))) w') : o.wp P a w K Q := by
  obtain ⟨g', c', w', hr, hO⟩ := run_append_full_nil (P := P) t o.type e i z size bytes ht hi hz hsize hby (mc := mc) h hn h0 h63 hbytes
  unfold Oper.wp execOp
  simp only [ho, resolve, invoke, builtin, Sem.run_bind, Sem.run_pure, Result.andThen_ok, List.map_toArray, List.map_cons, List.map_nil, hs, hx, hr]
  exact hK g' c' w' hO
end
/-- A look-up of a key that is not there. -/
theorem wpList_lookup_no {P : Program} {ops : Array Oper} {Q : Exit → Act → World → Prop} {rest : List Oper} {a : Act} {w : World} {o : Oper} (hg : o.guard = none) (m x : Operand) (t : TypeId) (ok : Bool) (hop : o.op = Op.lookup t m x ok) (k e : TypeId) (ht : P.underlying t = some (.map k e)) (hk : P.underlying k = some .string) {r : Nat} {es : Array MapEntry} {c : Nat} (h : Base.MapAt w r es c) (hm : a.eval m = .map (some r)) (s : ByteArray) (hx : a.eval x = .string s) (z : Value) (hz : (zeroValue e).run P w = .ok z w)
    (hf : Instr.findNow .string (.string s) es.toList 0 = some none) (hK : wpList P ops Q rest (a.put o.dst (if ok then .tuple #[z, .bool false] else z)) w) : wpList P ops Q (o :: rest) a w :=
  wpList_plain hg fun _ hK' => by
    unfold Oper.wp
    simp [execOp, hop, hm, hx, Base.run_lookup_no w ht hk h s z hz hf ok, Result.andThen]
    exact hK' _ _ hK
end Go.Proofs.YtghofdhhhbbaaaaGreatDoor.Own
