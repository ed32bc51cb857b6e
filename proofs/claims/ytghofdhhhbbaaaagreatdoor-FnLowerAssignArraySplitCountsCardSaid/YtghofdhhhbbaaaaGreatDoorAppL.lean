/- Appends outside drawn regions, by ownership; where the walk stands at one. No condition. -/
import Derived.Test.YtghofdhhhbbaaaaGreatDoorApp
namespace Go.Proofs.YtghofdhhhbbaaaaGreatDoor.Own
open Go.RowKit
set_option linter.unusedVariables false
/-- The walk stands at an append. -/
structure AppStop (p : Prop) : Prop where
  mk ::
  out : p
theorem appStop {p : Prop} (h : AppStop p) : p := h.out
section
variable {P : Program} {ops : Array Oper} {rest : List Oper} {w0 w : World} {X : Nat → Obj → Prop}
theorem wpList_append_full {o : Oper} {a : Act} {Q : Exit → Act → World → Prop} (hg : o.guard = none) (s x : Operand) (t : TypeId) (ho : o.op = .call { callee := .builtin .append, args := #[s, x], argTypes := #[t, t] })
    (e : TypeId) (i : TypeInfo) (z : Value) (size bytes : Nat) (ht : P.underlying t = some (.slice e)) (hi : P.info? e = some i) (hz : i.zero = some z)
    (hsize : i.size = size) (hby : i.bytes = bytes) (hzs : z.cells.size = size) (hsz : 0 < size)
    {g n cp c ad m mc te : Nat} {l news : List Value} (h : Own w0 w [row g e (full z.cells l c), row ad te news.toArray] X) (hs : a.eval s = .slice (some ⟨g, 0, none⟩) n cp) (hx : a.eval x = .slice (some ⟨ad, 0, none⟩) m mc)
    (hl : l.length = n * size) (hcp : cp = n + c) (hn : news.length = m * size) (h1 : ∀ u ∈ news, u.oneCell' = true) (h63 : n + m ≤ maxLen) (hbytes : (n + m) * bytes ≤ 140737488355328)
    (hK : ∀ g' c' w', Own w0 w' [row g' e (full z.cells (l ++ news) c'), row ad te news.toArray] X → wpList P ops Q rest (a.put o.dst (.slice (some ⟨g', 0, none⟩) (n + m) (n + m + c'))) w') : wpList P ops Q (o :: rest) a w :=
  wpList_plain hg fun _ hK' => wp_append_full s x t ho e i z size bytes ht hi hz hsize hby hzs hsz h hs hx hl hcp hn h1 h63 hbytes fun g' c' w' hO => hK' _ _ (hK g' c' w' hO)
theorem wpList_append_full_nil {o : Oper} {a : Act} {Q : Exit → Act → World → Prop} (hg : o.guard = none) (s x : Operand) (t : TypeId) (ho : o.op = .call { callee := .builtin .append, args := #[s, x], argTypes := #[t, t] })
    (e : TypeId) (i : TypeInfo) (z : Value) (size bytes : Nat) (ht : P.underlying t = some (.slice e)) (hi : P.info? e = some i) (hz : i.zero = some z)
    (hsize : i.size = size) (hby : i.bytes = bytes)
    {ad m mc te : Nat} {news : List Value} (h : Own w0 w [row ad te news.toArray] X) (hs : a.eval s = .slice none 0 0) (hx : a.eval x = .slice (some ⟨ad, 0, none⟩) m mc)
    (hn : news.length = m * size) (h0 : 0 < m) (h63 : m ≤ maxLen) (hbytes : m * bytes ≤ 140737488355328)
    (hK : ∀ g' c' w', Own w0 w' [row g' e (full z.cells news c'), row ad te news.toArray] X → wpList P ops Q rest (a.put o.dst (.slice (some ⟨g', 0, none⟩) m (m + c'))) w') : wpList P ops Q (o :: rest) a w :=
  wpList_plain hg fun _ hK' => wp_append_full_nil s x t ho e i z size bytes ht hi hz hsize hby h hs hx hn h0 h63 hbytes fun g' c' w' hO => hK' _ _ (hK g' c' w' hO)
end
end Go.Proofs.YtghofdhhhbbaaaaGreatDoor.Own
