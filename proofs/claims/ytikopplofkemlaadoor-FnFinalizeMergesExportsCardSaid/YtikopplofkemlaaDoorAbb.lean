/- Short names of values; operations that only read. No condition. -/
import Derived.Test.YtikopplofkemlaaDoorRows
import Derived.Test.YtikopplofkemlaaDoorOwn
import Derived.Lib.Hide
namespace Go.Proofs.YtikopplofkemlaaDoor.Use
abbrev vU (x : Int) : Value := .int .u32 x
abbrev vI (x : Int) : Value := .int .i32 x
abbrev bF : Value := .bool false
abbrev vN : Value := .slice none 0 0
abbrev vP (b : Nat) : Value := .pointer (some ⟨b, 0, none⟩)
abbrev vS (b n c : Nat) : Value := .slice (some ⟨b, 0, none⟩) n c
abbrev vF (t : TypeId) (b : Nat) : Value := .iface t (.pointer (some ⟨b, 0, none⟩))
abbrev v8 (x : Int) : Value := .int .u8 x
abbrev v6 (x : Int) : Value := .int .i64 x
abbrev vO : Value := .pointer none
theorem dc {p : Prop} (h : p := by decide) : p := h
/-- A number below another one, by counting. -/
theorem ltd {a : Nat} (b : Nat) (h : Nat.blt a b = true) : a < b := Nat.le_of_ble_eq_true h
theorem eS {a : Act} {t : Nat} (v : Value) (h : a.tmps[t]? = some v) : a.tmps.getD t undef = v := Rega.eval_of h
theorem hid2 {w0 w : World} {L : List Own.Rw} {X : Nat → Obj → Prop} (h : Own.Own w0 w L X) : RowKit.Hid (L.Pairwise fun r s => r.1 ≠ s.1) ∧ RowKit.Hid (∀ b o, X b o → ∀ r, r ∈ L → r.1 ≠ b) := ⟨Lib.hid h.apart, Lib.hid h.apartX⟩
open Own Rega in
/-- An operation that only reads. -/
theorem pur {P : Program} {ops : Array Oper} {Q : Exit → Act → World → Prop} {a0 : Act} {e : Nat → Atoms → Value} {anc : Nat → List Nat} {w0 : World} {X : Nat → Obj → Prop} {cnt : List (Nat × Nat)} {nb : Nat} {trn : Nat → List Nat} {ρ : (Nat → Bool) → Atoms → Nat → Rw} {k : Nat} {o : Oper}
    (hS : Stable cnt nb anc trn ρ) (hc : (cnt.lookup k).getD 0 = 0) (ht : trn k = [])
    (h : ∀ (L : Nat → Bool) (α : Atoms) (a : Act) (w : World) (K : Act → World → Prop), L k = false → (∀ j, L j = true → ∀ i, i ∈ anc j → L i = true) → (∀ j, j ∈ anc k → L j = true) → OwnF w0 w (act cnt nb L) (ρ L α) X →
      (∀ j t, j ∈ anc k → (ops[j]?).bind (·.dst) = some t → t < a0.tmps.size → a.tmps[t]? = some (e j α)) → (∀ t, slotOf ops t = none → a.tmps[t]? = a0.tmps[t]?) → (∀ t j, slotOf ops t = some j → L j = false → a.tmps[t]? = a0.tmps[t]?) →
      K (a.put o.dst (e k α)) w → if Region.wanted o (yielded ops a.tmps) then o.wp P a w K Q else K (a.put o.dst undef) w) : Runs P ops Q a0 e anc (fun L α u => OwnF w0 u (act cnt nb L) (ρ L α) X) k o :=
  fun L α a w K hL hcl hA hG hSl h0 h1 hK => h L α a w K hL hcl hA hG hSl h0 h1 (hK _ α _ (fun _ _ => rfl) rfl (step_same hS hL hcl hc ht hG))
end Go.Proofs.YtikopplofkemlaaDoor.Use
