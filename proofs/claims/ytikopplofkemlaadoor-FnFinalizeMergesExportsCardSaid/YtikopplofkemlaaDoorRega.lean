/- A region that draws its order, whatever its operations make, call or turn: each operation's value is told as a function of atoms (numbers that operations pick, such as the block that an allocation makes), each operation is run alone, and one end serves every order. No condition. -/
import Derived.Test.YtikopplofkemlaaDoorKept
namespace Go.Proofs.YtikopplofkemlaaDoor.Rega
open Go.RowKit

abbrev Atoms := Nat → Nat
theorem act_ext {t t' : Array Value} {d d' : List Deferred} (h : t = t') (k : d = d') : Act.mk t d = Act.mk t' d' := by rw [h, k]
/-- Operation k has run, too. -/
def ran (L : Nat → Bool) (k : Nat) : Nat → Bool := fun j => if j = k then true else L j
/-- Which have run. -/
def has (listed : Array Bool) : Nat → Bool := fun k => listed.getD k false
/-- The operation that fills slot t. -/
def slotOf (ops : Array Oper) (t : Nat) : Option Nat := (List.range ops.size).find? fun k => ((ops[k]?).bind (·.dst)) == some t
/-- The frame when the operations of 'listed' have run. -/
def frameAt (ops : Array Oper) (e : Nat → Atoms → Value) (a0 : Act) (listed : Array Bool) (α : Atoms) : Act :=
  { a0 with tmps := a0.tmps.mapIdx fun t v => match slotOf ops t with
      | some k => if listed.getD k false then e k α else v
      | none => v }

/-- No two operations fill one slot. -/
def apartB (ops : Array Oper) : Bool := (List.range ops.size).all fun k => match (ops[k]?).bind (·.dst) with
  | some t => slotOf ops t == some k
  | none => true
/-- Every edge that binds leads back. -/
def backB (ops : Array Oper) : Bool := (List.range ops.size).all fun k => match ops[k]? with
  | some o => o.after.toList.all fun ed => !Region.binds .any ed || decide (ed.on < k)
  | none => true
/-- What an operation leans on has run before it, by its edges. -/
def ancB (ops : Array Oper) (anc : Nat → List Nat) : Bool := (List.range ops.size).all fun k => match ops[k]? with
  | some o => (anc k).all fun j => o.after.toList.any fun ed => Region.binds .any ed && (ed.on == j || (anc ed.on).contains j)
  | none => true

section
variable {P : Program} {ops : Array Oper} {Q : Exit → Act → World → Prop} {a0 : Act} {e : Nat → Atoms → Value} {F : Nat → (Nat → Bool) → Atoms → World → Prop} {anc : Nat → List Nat} {G : (Nat → Bool) → World → Prop} {Step : Nat → Atoms → World → World → Prop}

/-- One operation, run alone. -/
def Runs (P : Program) (ops : Array Oper) (Q : Exit → Act → World → Prop) (a0 : Act) (e : Nat → Atoms → Value) (F : Nat → (Nat → Bool) → Atoms → World → Prop) (anc : Nat → List Nat) (G : (Nat → Bool) → World → Prop) (Step : Nat → Atoms → World → World → Prop) (k : Nat) (o : Oper) : Prop :=
  ∀ (L : Nat → Bool) (α : Atoms) (a : Act) (w : World) (K : Act → World → Prop), L k = false → (∀ j, L j = true → ∀ i, i ∈ anc j → L i = true) → G L w → (∀ j, j ∈ anc k → L j = true ∧ F j L α w) → (∀ j t, j ∈ anc k → (ops[j]?).bind (·.dst) = some t → t < a0.tmps.size → a.tmps[t]? = some (e j α)) →
    (∀ t, slotOf ops t = none → a.tmps[t]? = a0.tmps[t]?) →
    (∀ v α' w', (∀ j, j % 1000 ≠ k → α' j = α j) → v = e k α' → F k (ran L k) α' w' → Step k α' w w' → K (a.put o.dst v) w') →
    if Region.wanted o (yielded ops a.tmps) then o.wp P a w K Q else K (a.put o.dst undef) w

def Inv (ops : Array Oper) (a0 : Act) (e : Nat → Atoms → Value) (F : Nat → (Nat → Bool) → Atoms → World → Prop) (anc : Nat → List Nat) (G : (Nat → Bool) → World → Prop) (listed : Array Bool) (a : Act) (w : World) : Prop :=
  listed.size = ops.size ∧ ∃ α, a = frameAt ops e a0 listed α ∧ G (has listed) w ∧ ∀ k, listed.getD k false = true → F k (has listed) α w ∧ ∀ j, j ∈ anc k → listed.getD j false = true

theorem slotOf_dst {k t : Nat} (h : slotOf ops t = some k) : (ops[k]?).bind (·.dst) = some t := by
  have := List.find?_some h
  simpa using this
theorem slotOf_of (hap : apartB ops = true) {k t : Nat} (h : (ops[k]?).bind (·.dst) = some t) : slotOf ops t = some k := by
  have hk : k < ops.size := by
    cases ho : ops[k]? with
    | none => rw [ho] at h; cases h
    | some o => exact (Array.getElem?_eq_some_iff.1 ho).1
  have := List.all_eq_true.1 hap k (List.mem_range.2 hk)
  rw [h] at this
  simpa using this

theorem frameAt_get (listed : Array Bool) (α : Atoms) (t : Nat) : (frameAt ops e a0 listed α).tmps[t]? = (a0.tmps[t]?).map fun v => match slotOf ops t with
      | some k => if listed.getD k false then e k α else v
      | none => v := by
  simp [frameAt, Array.getElem?_mapIdx]

theorem frameAt_put (hap : apartB ops = true) {listed : Array Bool} {α α' : Atoms} {i : Nat} {o : Oper} (ho : ops[i]? = some o) (hsz : listed.size = ops.size)
    (he : ∀ k, k ≠ i → listed.getD k false = true → e k α' = e k α) :
    (frameAt ops e a0 listed α).put o.dst (e i α') = frameAt ops e a0 (listed.setIfInBounds i true) α' := by
  have hi : i < ops.size := (Array.getElem?_eq_some_iff.1 ho).1
  have hL : ∀ k, (listed.setIfInBounds i true).getD k false = if k = i then true else listed.getD k false := by
    intro k
    rw [Array.getD_eq_getD_getElem?, Array.getD_eq_getD_getElem?, Array.getElem?_setIfInBounds]
    by_cases hk : i = k
    · subst hk; simp [hsz, hi]
    · rw [if_neg hk, if_neg (fun h => hk h.symm)]
  have hsame : ∀ t : Nat, (o.dst = some t → False) → (frameAt ops e a0 listed α).tmps[t]? = (frameAt ops e a0 (listed.setIfInBounds i true) α').tmps[t]? := by
    intro t ht
    rw [frameAt_get, frameAt_get]
    cases hs : slotOf ops t with
    | none => rfl
    | some k =>
      have hd := slotOf_dst hs
      have hki : k ≠ i := by
        rintro rfl
        rw [ho] at hd
        exact ht hd
      simp only [hL k, if_neg hki]
      cases hl : listed.getD k false with
      | false => rfl
      | true => simp only [if_true, he k hki hl]
  cases hd : o.dst with
  | none =>
    show frameAt ops e a0 listed α = _
    have hx : (frameAt ops e a0 listed α).tmps = (frameAt ops e a0 (listed.setIfInBounds i true) α').tmps :=
      Array.ext_getElem? fun t => hsame t (by rw [hd]; intro h; cases h)
    show Act.mk _ _ = Act.mk _ _
    exact act_ext hx rfl
  | some d =>
    show Act.mk _ _ = Act.mk _ _
    refine act_ext (Array.ext_getElem? fun t => ?_) rfl
    rw [Array.getElem?_setIfInBounds]
    by_cases htd : d = t
    · subst htd
      have hs : slotOf ops d = some i := slotOf_of hap (by rw [ho]; exact hd)
      rw [if_pos rfl]
      have e2 : (frameAt ops e a0 (listed.setIfInBounds i true) α').tmps[d]? = (a0.tmps[d]?).map fun _ => e i α' := by
        rw [frameAt_get, hs]
        simp only [hL i, if_true]
      refine Eq.trans ?_ e2.symm
      by_cases hlt : d < a0.tmps.size
      · rw [if_pos (by simpa [frameAt] using hlt), Array.getElem?_eq_getElem hlt]; rfl
      · have hge : a0.tmps.size ≤ d := Nat.le_of_not_lt hlt
        rw [if_neg (by simpa [frameAt] using hlt), Array.getElem?_eq_none hge]; rfl
    · rw [if_neg htd]
      exact hsame t (by rw [hd]; intro h; exact htd (Option.some.inj h))

/-- The operations one by one. -/
def RunsAll (P : Program) (ops : Array Oper) (Q : Exit → Act → World → Prop) (a0 : Act) (e : Nat → Atoms → Value) (F : Nat → (Nat → Bool) → Atoms → World → Prop) (anc : Nat → List Nat) (G : (Nat → Bool) → World → Prop) (Step : Nat → Atoms → World → World → Prop) : Nat → List Oper → Prop
  | _, [] => True
  | k, o :: l => Runs P ops Q a0 e F anc G Step k o ∧ RunsAll P ops Q a0 e F anc G Step (k + 1) l
theorem RunsAll.at {ops' : Array Oper} : ∀ (l : List Oper) (n : Nat), RunsAll P ops' Q a0 e F anc G Step n l → ∀ k o, l[k]? = some o → Runs P ops' Q a0 e F anc G Step (n + k) o
  | [], _, _, k, o, h => by simp at h
  | x :: l, n, ⟨h1, h2⟩, 0, o, h => by
    obtain rfl : x = o := by simpa using h
    exact h1
  | x :: l, n, ⟨h1, h2⟩, k + 1, o, h => by
    have := RunsAll.at l (n + 1) h2 k o (by simpa using h)
    rwa [Nat.add_assoc, Nat.add_comm 1 k] at this
theorem RunsAll.all {l : List Oper} (h : RunsAll P l.toArray Q a0 e F anc G Step 0 l) : ∀ k o, l.toArray[k]? = some o → Runs P l.toArray Q a0 e F anc G Step k o := fun k o ho => by
  have := RunsAll.at l 0 h k o (by simpa using ho)
  rwa [Nat.zero_add] at this
theorem eval_of {a : Act} {t : Nat} {v : Value} (h : a.tmps[t]? = some v) : a.tmps.getD t undef = v := by
  rw [Array.getD_eq_getD_getElem?, h]; rfl
end
end Go.Proofs.YtikopplofkemlaaDoor.Rega
