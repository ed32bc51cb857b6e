/- Slices of a row with room; an append of a part of another row; an append into the middle of a row. No condition. -/
import Derived.Test.YtghofdhhhbbaaaaGreatDoorApp
import Derived.Test.YtghofdhhhbbaaaaGreatDoorAppL
namespace Go.Proofs.YtghofdhhhbbaaaaGreatDoor.Own
open Go.RowKit
set_option linter.unusedVariables false
/-- Where the rest of a row begins. -/
def aft (b i cap s : Nat) : Addr := if cap = i then ⟨b, 0, none⟩ else ⟨b, i * s, none⟩
section
variable {P : Program} (w : World) {t : TypeId} {s : Nat} (ht : P.underlying t = some (.slice (P.elem t))) (hs : (sizeOf (P.elem t)).run P w = .ok s w)
include ht hs
theorem run_slice_to {b n cap i : Nat} {k : IntKind} (hi : i ≤ cap) : (Instr.slice t (.slice (some ⟨b, 0, none⟩) n cap) none (some (.int k (i : Int))) none).run P w = .ok (.slice (some ⟨b, 0, none⟩) i cap) w := by
  rw [run_slice_h w t _ n cap ht k (i : Int) (by omega) (by omega), hs]
  simp [Result.andThen, sliced, Addr.add]
theorem run_slice_from {b n cap i r rc : Nat} {k : IntKind} {x : Int} (hx : x = (i : Int)) (hin : n = i + r) (hc : cap = i + rc) (hj : i ≤ n) : (Instr.slice t (.slice (some ⟨b, 0, none⟩) n cap) (some (.int k x)) none none).run P w = .ok (.slice (some (aft b i cap s)) r rc) w := by
  subst hx
  have h1 : (Instr.slice t (.slice (some ⟨b, 0, none⟩) n cap) (some (.int k (i : Int))) none none).run P w = ((sizeOf (P.elem t)).run P w).andThen fun s w => .ok (sliced (some ⟨b, 0, none⟩) (i : Int).toNat n cap s) w := run_slice_l w t _ n cap ht k (i : Int) (by omega) (by omega)
  rw [h1, hs]
  have e1 : n - i = r := by omega
  have e2 : cap - i = rc := by omega
  simp only [Result.andThen, sliced, Int.toNat_natCast, e1, e2, aft]
  by_cases h : cap = i
  · simp [h]
  · simp only [h, if_false, Option.map_some, Addr.add]
    by_cases h0 : i * s = 0
    · simp [h0]
    · simp [h0]
end
section
variable {P : Program} {w0 w w' : World} {L M : List Rw} {X : Nat → Obj → Prop}
theorem wp_slice {o : Oper} {a : Act} {K : Act → World → Prop} {Q : Exit → Act → World → Prop} (t : TypeId) (x : Operand) (lo hi mx : Option Operand) (ho : o.op = .slice t x lo hi mx) (v : Value) (ht : P.underlying t = some (.slice (P.elem t)))
    (hr : (Instr.slice t (a.eval x) (lo.map a.eval) (hi.map a.eval) (mx.map a.eval)).run P w = .ok v w) (hK : K (a.put o.dst v) w) : o.wp P a w K Q := by
  unfold Oper.wp
  simp only [execOp, ho, Sem.run_bind, run_sliceAt_slice w t _ _ _ _ ht, hr, Result.andThen_ok]
  exact hK
/-- An append of elements that lie anywhere in another row. -/
theorem run_append_part (t ty e : TypeId) (i : TypeInfo) (z : Value) (size bytes : Nat) (ht : P.underlying t = some (.slice e)) (hi : P.info? e = some i) (hz : i.zero = some z)
    (hsize : i.size = size) (hby : i.bytes = bytes) (hzs : z.cells.size = size) (hsz : 0 < size)
    {g n cp c ad m mc te : Nat} {l news : List Value} {arr : Array Value} {x : Addr} (h : Own w0 w [row g e (full z.cells l c), row ad te arr] X) (hl : l.length = n * size) (hcp : cp = n + c)
    (hn : news.length = m * size) (hx : ∀ j u, news[j]? = some u → ∃ k, x.add j = ⟨ad, k, none⟩ ∧ arr[k]? = some u) (h1 : ∀ u ∈ news, u.oneCell' = true) (h63 : n + m ≤ maxLen) (hbytes : (n + m) * bytes ≤ 140737488355328) :
    ∃ g' c' w', (Builtin.append_ #[t, t] ty #[.slice (some ⟨g, 0, none⟩) n cp, .slice (some x) m mc]).run P w = .ok (.slice (some ⟨g', 0, none⟩) (n + m) (n + m + c')) w' ∧
      Own w0 w' [row g' e (full z.cells (l ++ news) c'), row ad te arr] X := by
  subst hsize
  subst hby
  subst hcp
  have hg := h.rowAt 0 rfl
  have hnews : ∀ j u, news[j]? = some u → w.cell? (x.add j) = some u := fun j u hj => by
    obtain ⟨k, e1, e2⟩ := hx j u hj
    rw [e1]
    exact h.cell 1 rfl k e2
  by_cases hroom : m ≤ c
  · obtain ⟨c', rfl⟩ := Nat.exists_eq_add_of_le hroom
    have hfs : (full z.cells l (m + c')).size = n * i.size + (m + c') * i.size := by unfold full; simp [size_zeroCells, hzs, hl]
    have hr := run_append_room (P := P) w t ty e i ht hi g n (n + (m + c')) _ hg x m mc news hn hnews h1 (by omega) (by rw [hfs, hn, Nat.add_mul m]; omega)
    have e1 : ((full z.cells l (m + c')).toList.take (n * i.size) ++ news ++ (full z.cells l (m + c')).toList.drop (n * i.size + news.length)).toArray = full z.cells (l ++ news) c' := by
      unfold full
      simp only [Array.toList_append]
      rw [← hl, List.take_left, ← List.drop_drop, List.drop_left, hn, ← hzs, zeroCells_drop]
      apply Array.ext'
      simp
    rw [e1] at hr
    refine ⟨g, c', _, by rw [hr]; congr 2; omega, ?_⟩
    exact h.moved 0 rfl ⟨rfl, rfl, rfl, by simp, fun k _ hk => setRow_other w g k _ (fun e => hk (by rw [e]))⟩ (setRow_heap w g _ _ e _ hg) (Or.inl rfl)
  · have holds : ∀ j u, l[j]? = some u → w.cell? ((⟨g, 0, none⟩ : Addr).add j) = some u := fun j u hj => by
      rw [add_cell]
      exact h.cell 0 rfl j (full_at hj)
    have hr := run_append_grow (P := P) w t ty e i z ht hi hz ⟨g, 0, none⟩ n (n + c) l hl holds x m mc news hn hnews (by omega) (by simp only [maxLen] at h63; omega) (growslice_fits (by omega) hbytes)
    have hge := grownCap_ge w (n + m) (n + c) e
    obtain ⟨c', hc'⟩ := Nat.exists_eq_add_of_le hge
    have e2 : l.toArray ++ news.toArray ++ Builtin.zeroCells z.cells (grownCap w (n + m) (n + c) e - (n + m)) = full z.cells (l ++ news) c' := by
      unfold full
      rw [hc', show n + m + c' - (n + m) = c' by omega]
      simp
    rw [e2, hc'] at hr
    refine ⟨_, c', _, hr, ?_⟩
    refine h.moved 0 rfl ⟨rfl, rfl, rfl, by simp, fun k hk _ => heap_alloc_old w.drew _ hk⟩ (heap_alloc_new w.drew _) (Or.inr rfl)
theorem wp_append_part {o : Oper} {a : Act} {K : Act → World → Prop} {Q : Exit → Act → World → Prop} (s xo : Operand) (t : TypeId) (ho : o.op = .call { callee := .builtin .append, args := #[s, xo], argTypes := #[t, t] })
    (e : TypeId) (i : TypeInfo) (z : Value) (size bytes : Nat) (ht : P.underlying t = some (.slice e)) (hi : P.info? e = some i) (hz : i.zero = some z)
    (hsize : i.size = size) (hby : i.bytes = bytes) (hzs : z.cells.size = size) (hsz : 0 < size)
    {g n cp c ad m mc te : Nat} {l news : List Value} {arr : Array Value} {x : Addr} (h : Own w0 w [row g e (full z.cells l c), row ad te arr] X) (hs : a.eval s = .slice (some ⟨g, 0, none⟩) n cp) (hxo : a.eval xo = .slice (some x) m mc)
    (hl : l.length = n * size) (hcp : cp = n + c) (hn : news.length = m * size) (hx : ∀ j u, news[j]? = some u → ∃ k, x.add j = ⟨ad, k, none⟩ ∧ arr[k]? = some u) (h1 : ∀ u ∈ news, u.oneCell' = true) (h63 : n + m ≤ maxLen) (hbytes : (n + m) * bytes ≤ 140737488355328)
    (hK : ∀ g' c' w', Own w0 w' [row g' e (full z.cells (l ++ news) c'), row ad te arr] X → K (a.put o.dst (.slice (some ⟨g', 0, none⟩) (n + m) (n + m + c'))) w') : o.wp P a w K Q := by
  obtain ⟨g', c', w', hr, hO⟩ := run_append_part (P := P) t o.type e i z size bytes ht hi hz hsize hby hzs hsz (mc := mc) h hl hcp hn hx h1 h63 hbytes
  unfold Oper.wp execOp
  simp only [ho, resolve, invoke, builtin, Sem.run_bind, Sem.run_pure, Result.andThen_ok, List.map_toArray, List.map_cons, List.map_nil, hs, hxo, hr]
  exact hK g' c' w' hO
/-- The same to an empty slice. -/
theorem wp_append_part0 {o : Oper} {a : Act} {K : Act → World → Prop} {Q : Exit → Act → World → Prop} (s xo : Operand) (t : TypeId) (ho : o.op = .call { callee := .builtin .append, args := #[s, xo], argTypes := #[t, t] })
    (e : TypeId) (i : TypeInfo) (z : Value) (size bytes : Nat) (ht : P.underlying t = some (.slice e)) (hi : P.info? e = some i) (hz : i.zero = some z)
    (hsize : i.size = size) (hby : i.bytes = bytes) (hzs : z.cells.size = size) (hsz : 0 < size)
    {g ad m mc te : Nat} {news : List Value} {arr : Array Value} {x : Addr} (h : Own w0 w [row g e (full z.cells [] 0), row ad te arr] X) (hs : a.eval s = .slice (some ⟨g, 0, none⟩) 0 0) (hxo : a.eval xo = .slice (some x) m mc)
    (hn : news.length = m * size) (hx : ∀ j u, news[j]? = some u → ∃ k, x.add j = ⟨ad, k, none⟩ ∧ arr[k]? = some u) (h1 : ∀ u ∈ news, u.oneCell' = true) (h63 : m ≤ maxLen) (hbytes : m * bytes ≤ 140737488355328)
    (hK : ∀ g' c' w', Own w0 w' [row g' e (full z.cells news c'), row ad te arr] X → K (a.put o.dst (.slice (some ⟨g', 0, none⟩) m (m + c'))) w') : o.wp P a w K Q :=
  wp_append_part s xo t ho e i z size bytes ht hi hz hsize hby hzs hsz h hs hxo (by simp) rfl hn hx h1 (by simpa using h63) (by simpa using hbytes) fun g' c' w' hO => by
    rw [Nat.zero_add]
    exact hK g' c' w' hO
theorem aft_at {z : Array Value} {l : List Value} {c b i r cap s : Nat} (hl : l.length = (i + r) * s) (hc : i + r ≤ cap) : ∀ j u, (l.drop (i * s))[j]? = some u → ∃ k, (aft b i cap s).add j = ⟨b, k, none⟩ ∧ (full z l c)[k]? = some u := by
  intro j u hj
  have hlt := (List.getElem?_eq_some_iff.1 hj).1
  rw [List.length_drop, hl, Nat.add_mul] at hlt
  have h2 : ¬ cap = i := by
    rintro rfl
    have : r = 0 := by omega
    subst this
    omega
  rw [List.getElem?_drop] at hj
  refine ⟨i * s + j, ?_, full_at hj⟩
  unfold aft Addr.add
  rw [if_neg h2]
  by_cases h0 : j = 0
  · simp [h0]
  · simp [h0]
/-- An append into the middle of a row: what lay there is lost. -/
theorem run_append_in (t ty e : TypeId) (i : TypeInfo) (z : Value) (size bytes : Nat) (ht : P.underlying t = some (.slice e)) (hi : P.info? e = some i) (hz : i.zero = some z)
    (hsize : i.size = size)
    {g n cp c ad m mc te : Nat} {l news : List Value} (h : Own w0 w [row g e (full z.cells l c), row ad te news.toArray] X) (hl : n * size + news.length ≤ l.length) (hcp : n + m ≤ cp)
    (hn : news.length = m * size) (h1 : ∀ u ∈ news, u.oneCell' = true) :
    ∃ w', (Builtin.append_ #[t, t] ty #[.slice (some ⟨g, 0, none⟩) n cp, .slice (some ⟨ad, 0, none⟩) m mc]).run P w = .ok (.slice (some ⟨g, 0, none⟩) (n + m) cp) w' ∧
      Own w0 w' [row g e (full z.cells (l.take (n * size) ++ news ++ l.drop (n * size + news.length)) c), row ad te news.toArray] X := by
  subst hsize
  have hg := h.rowAt 0 rfl
  have hnews : ∀ j u, news[j]? = some u → w.cell? ((⟨ad, 0, none⟩ : Addr).add j) = some u := fun j u hj => by
    rw [add_cell]
    exact h.cell 1 rfl j (by simpa using hj)
  have hfs : n * i.size + news.length ≤ (full z.cells l c).size := by unfold full; simp; omega
  have hr := run_append_room (P := P) w t ty e i ht hi g n cp _ hg ⟨ad, 0, none⟩ m mc news hn hnews h1 hcp hfs
  have e1 : ((full z.cells l c).toList.take (n * i.size) ++ news ++ (full z.cells l c).toList.drop (n * i.size + news.length)).toArray = full z.cells (l.take (n * i.size) ++ news ++ l.drop (n * i.size + news.length)) c := by
    unfold full
    simp only [Array.toList_append]
    rw [List.take_append_of_le_length (by omega), List.drop_append_of_le_length (by omega)]
    apply Array.ext'
    simp
  rw [e1] at hr
  exact ⟨_, hr, h.moved 0 rfl ⟨rfl, rfl, rfl, by simp, fun k _ hk => setRow_other w g k _ (fun e => hk (by rw [e]))⟩ (setRow_heap w g _ _ e _ hg) (Or.inl rfl)⟩
theorem wpList_append_in {ops : Array Oper} {rest : List Oper} {o : Oper} {a : Act} {Q : Exit → Act → World → Prop} (hg : o.guard = none) (s x : Operand) (t : TypeId) (ho : o.op = .call { callee := .builtin .append, args := #[s, x], argTypes := #[t, t] })
    (e : TypeId) (i : TypeInfo) (z : Value) (size bytes : Nat) (ht : P.underlying t = some (.slice e)) (hi : P.info? e = some i) (hz : i.zero = some z)
    (hsize : i.size = size)
    {g n cp c ad m mc te : Nat} {l news : List Value} (h : Own w0 w [row g e (full z.cells l c), row ad te news.toArray] X) (hs : a.eval s = .slice (some ⟨g, 0, none⟩) n cp) (hx : a.eval x = .slice (some ⟨ad, 0, none⟩) m mc)
    (hl : n * size + news.length ≤ l.length) (hcp : n + m ≤ cp) (hn : news.length = m * size) (h1 : ∀ u ∈ news, u.oneCell' = true)
    (hK : ∀ w', Own w0 w' [row g e (full z.cells (l.take (n * size) ++ news ++ l.drop (n * size + news.length)) c), row ad te news.toArray] X → wpList P ops Q rest (a.put o.dst (.slice (some ⟨g, 0, none⟩) (n + m) cp)) w') : wpList P ops Q (o :: rest) a w :=
  wpList_plain hg fun _ hK' => by
    obtain ⟨w', hr, hO⟩ := run_append_in (P := P) t o.type e i z size bytes ht hi hz hsize (mc := mc) h hl hcp hn h1
    unfold Oper.wp execOp
    simp only [ho, resolve, invoke, builtin, Sem.run_bind, Sem.run_pure, Result.andThen_ok, List.map_toArray, List.map_cons, List.map_nil, hs, hx, hr]
    exact hK' _ _ (hK w' hO)
end
end Go.Proofs.YtghofdhhhbbaaaaGreatDoor.Own
