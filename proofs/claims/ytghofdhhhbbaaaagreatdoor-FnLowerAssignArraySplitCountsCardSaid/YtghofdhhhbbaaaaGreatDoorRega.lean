/- A region that draws its order, whatever its operations make, call or turn: each operation's value is told as a function of atoms (numbers that operations pick, such as the block that an allocation makes), each operation is run alone, and one end serves every order. No condition. -/
import Derived.Test.YtghofdhhhbbaaaaGreatDoorKept
namespace Go.Proofs.YtghofdhhhbbaaaaGreatDoor.Rega
open Go.RowKit

abbrev Atoms := Nat → Nat
theorem act_ext {t t' : Array Value} {d d' : List Deferred} (h : t = t') (k : d = d') : Act.mk t d = Act.mk t' d' := by rw [h, k]
/-- Operation k has run, too. -/
def ran (L : Nat → Bool) (k : Nat) : Nat → Bool := fun j => if j = k then true else L j
/-- Which have run. -/
def has (listed : Array Bool) : Nat → Bool := fun k => listed.getD k false
/-- Atom k set to x. -/
def upd (α : Atoms) (k x : Nat) : Atoms := fun j => if j = k then x else α j

/-- The operation that fills slot t. -/
def slotOf (ops : Array Oper) (t : Nat) : Option Nat := (List.range ops.size).find? fun k => ((ops[k]?).bind (·.dst)) == some t
/-- The frame when the operations of 'listed' have run. -/
def frameAt (ops : Array Oper) (e : Nat → Atoms → Value) (a0 : Act) (listed : Array Bool) (α : Atoms) : Act :=
  { a0 with tmps := a0.tmps.mapIdx fun t v => match slotOf ops t with
      | some k => if listed.getD k false then e k α else v
      | none => v }

/-- No two operations fill one slot. -/
def apartB (ops : Array Oper) : Bool := (List.range ops.size).all fun k => match (ops[k]?).bind (·.dst) with
  | some t => slotOf ops t == some k
  | none => true
/-- Every edge that binds leads back. -/
def backB (ops : Array Oper) : Bool := (List.range ops.size).all fun k => match ops[k]? with
  | some o => o.after.toList.all fun ed => !Region.binds .any ed || decide (ed.on < k)
  | none => true
/-- What an operation leans on has run before it, by its edges. -/
def ancB (ops : Array Oper) (anc : Nat → List Nat) : Bool := (List.range ops.size).all fun k => match ops[k]? with
  | some o => (anc k).all fun j => o.after.toList.any fun ed => Region.binds .any ed && (ed.on == j || (anc ed.on).contains j)
  | none => true

section
variable {P : Program} {ops : Array Oper} {Q : Exit → Act → World → Prop} {a0 : Act} {e : Nat → Atoms → Value} {F : Nat → (Nat → Bool) → Atoms → World → Prop} {anc : Nat → List Nat} {G : (Nat → Bool) → World → Prop} {Step : Nat → Atoms → World → World → Prop}

/-- One operation, run alone. -/
def Runs (P : Program) (ops : Array Oper) (Q : Exit → Act → World → Prop) (a0 : Act) (e : Nat → Atoms → Value) (F : Nat → (Nat → Bool) → Atoms → World → Prop) (anc : Nat → List Nat) (G : (Nat → Bool) → World → Prop) (Step : Nat → Atoms → World → World → Prop) (k : Nat) (o : Oper) : Prop :=
  ∀ (L : Nat → Bool) (α : Atoms) (a : Act) (w : World) (K : Act → World → Prop), L k = false → (∀ j, L j = true → ∀ i, i ∈ anc j → L i = true) → G L w → (∀ j, j ∈ anc k → L j = true ∧ F j L α w) → (∀ j t, j ∈ anc k → (ops[j]?).bind (·.dst) = some t → t < a0.tmps.size → a.tmps[t]? = some (e j α)) →
    (∀ t, slotOf ops t = none → a.tmps[t]? = a0.tmps[t]?) →
    (∀ v α' w', (∀ j, j % 1000 ≠ k → α' j = α j) → v = e k α' → F k (ran L k) α' w' → Step k α' w w' → K (a.put o.dst v) w') →
    if Region.wanted o (yielded ops a.tmps) then o.wp P a w K Q else K (a.put o.dst undef) w

def Inv (ops : Array Oper) (a0 : Act) (e : Nat → Atoms → Value) (F : Nat → (Nat → Bool) → Atoms → World → Prop) (anc : Nat → List Nat) (G : (Nat → Bool) → World → Prop) (listed : Array Bool) (a : Act) (w : World) : Prop :=
  listed.size = ops.size ∧ ∃ α, a = frameAt ops e a0 listed α ∧ G (has listed) w ∧ ∀ k, listed.getD k false = true → F k (has listed) α w ∧ ∀ j, j ∈ anc k → listed.getD j false = true

theorem slotOf_dst {k t : Nat} (h : slotOf ops t = some k) : (ops[k]?).bind (·.dst) = some t := by
  have := List.find?_some h
  simpa using this
theorem slotOf_of (hap : apartB ops = true) {k t : Nat} (h : (ops[k]?).bind (·.dst) = some t) : slotOf ops t = some k := by
  have hk : k < ops.size := by
    cases ho : ops[k]? with
    | none => rw [ho] at h; cases h
    | some o => exact (Array.getElem?_eq_some_iff.1 ho).1
  have := List.all_eq_true.1 hap k (List.mem_range.2 hk)
  rw [h] at this
  simpa using this

theorem frameAt_get (listed : Array Bool) (α : Atoms) (t : Nat) : (frameAt ops e a0 listed α).tmps[t]? = (a0.tmps[t]?).map fun v => match slotOf ops t with
      | some k => if listed.getD k false then e k α else v
      | none => v := by
  simp [frameAt, Array.getElem?_mapIdx]

theorem frameAt_put (hap : apartB ops = true) {listed : Array Bool} {α α' : Atoms} {i : Nat} {o : Oper} (ho : ops[i]? = some o) (hsz : listed.size = ops.size)
    (he : ∀ k, k ≠ i → listed.getD k false = true → e k α' = e k α) :
    (frameAt ops e a0 listed α).put o.dst (e i α') = frameAt ops e a0 (listed.setIfInBounds i true) α' := by
  have hi : i < ops.size := (Array.getElem?_eq_some_iff.1 ho).1
  have hL : ∀ k, (listed.setIfInBounds i true).getD k false = if k = i then true else listed.getD k false := by
    intro k
    rw [Array.getD_eq_getD_getElem?, Array.getD_eq_getD_getElem?, Array.getElem?_setIfInBounds]
    by_cases hk : i = k
    · subst hk; simp [hsz, hi]
    · rw [if_neg hk, if_neg (fun h => hk h.symm)]
  have hsame : ∀ t : Nat, (o.dst = some t → False) → (frameAt ops e a0 listed α).tmps[t]? = (frameAt ops e a0 (listed.setIfInBounds i true) α').tmps[t]? := by
    intro t ht
    rw [frameAt_get, frameAt_get]
    cases hs : slotOf ops t with
    | none => rfl
    | some k =>
      have hd := slotOf_dst hs
      have hki : k ≠ i := by
        rintro rfl
        rw [ho] at hd
        exact ht hd
      simp only [hL k, if_neg hki]
      cases hl : listed.getD k false with
      | false => rfl
      | true => simp only [if_true, he k hki hl]
  cases hd : o.dst with
  | none =>
    show frameAt ops e a0 listed α = _
    have hx : (frameAt ops e a0 listed α).tmps = (frameAt ops e a0 (listed.setIfInBounds i true) α').tmps :=
      Array.ext_getElem? fun t => hsame t (by rw [hd]; intro h; cases h)
    show Act.mk _ _ = Act.mk _ _
    exact act_ext hx rfl
  | some d =>
    show Act.mk _ _ = Act.mk _ _
    refine act_ext (Array.ext_getElem? fun t => ?_) rfl
    rw [Array.getElem?_setIfInBounds]
    by_cases htd : d = t
    · subst htd
      have hs : slotOf ops d = some i := slotOf_of hap (by rw [ho]; exact hd)
      rw [if_pos rfl]
      have e2 : (frameAt ops e a0 (listed.setIfInBounds i true) α').tmps[d]? = (a0.tmps[d]?).map fun _ => e i α' := by
        rw [frameAt_get, hs]
        simp only [hL i, if_true]
      refine Eq.trans ?_ e2.symm
      by_cases hlt : d < a0.tmps.size
      · rw [if_pos (by simpa [frameAt] using hlt), Array.getElem?_eq_getElem hlt]; rfl
      · have hge : a0.tmps.size ≤ d := Nat.le_of_not_lt hlt
        rw [if_neg (by simpa [frameAt] using hlt), Array.getElem?_eq_none hge]; rfl
    · rw [if_neg htd]
      exact hsame t (by rw [hd]; intro h; exact htd (Option.some.inj h))

theorem wpAny_atoms (hap : apartB ops = true) (hbk : backB ops = true) (han : ancB ops anc = true)
    (he : ∀ k α α', (∀ j, (j % 1000 = k ∨ j % 1000 ∈ anc k) → α j = α' j) → e k α = e k α')
    (hF : ∀ k L α α' w, (∀ j, (j % 1000 = k ∨ j % 1000 ∈ anc k) → α j = α' j) → F k L α w → F k L α' w)
    (hFs : ∀ k i L α w w', i ≠ k → i ∉ anc k → L k = true → L i = false → (∀ j, L j = true → ∀ i, i ∈ anc j → L i = true) → (∀ j, j ∈ anc i → L j = true) → Step i α w w' → F k L α w → F k (ran L i) α w') (hGs : ∀ i L α w w', L i = false → (∀ j, L j = true → ∀ i, i ∈ anc j → L i = true) → (∀ j, j ∈ anc i → L j = true) → Step i α w w' → G L w → G (ran L i) w')
    (hrun : ∀ k o, ops[k]? = some o → Runs P ops Q a0 e F anc G Step k o)
    (hend : ∀ α w, G (fun k => decide (k < ops.size)) w → (∀ k, k < ops.size → F k (fun k => decide (k < ops.size)) α w) → Q .normal (frameAt ops e a0 (Array.replicate ops.size true) α) w) :
    ∀ (fuel : Nat) (listed : Array Bool) (a : Act) (w : World), listed.toList.count false ≤ fuel → Inv ops a0 e F anc G listed a w → wpAny P .any ops Q fuel listed a w := by
  have hall : ∀ listed : Array Bool, listed.size = ops.size → Region.ready .any ops listed = [] → listed = Array.replicate ops.size true := by
    intro listed hsz hr
    have key : ∀ k, k < ops.size → listed.getD k false = true := by
      intro k
      induction k using Nat.strongRecOn with
      | ind k ih =>
        intro hk
        cases hl : listed.getD k false with
        | true => rfl
        | false =>
          exfalso
          obtain ⟨o, ho⟩ : ∃ o, ops[k]? = some o := ⟨ops[k], Array.getElem?_eq_getElem hk⟩
          have hmem : k ∈ Region.ready .any ops listed := by
            unfold Region.ready
            rw [List.mem_filter]
            refine ⟨List.mem_range.2 hk, ?_⟩
            have hlt : listed.getD k true = false := by
              rw [Array.getD_eq_getD_getElem?, Array.getElem?_eq_getElem (by omega)] at hl ⊢
              simpa using hl
            rw [hlt, ho]
            simp only [Bool.not_false, Bool.true_and, Option.map_some, Option.getD_some]
            rw [Array.all_eq_true']
            intro ed hed
            cases hb : Region.binds .any ed with
            | false => rfl
            | true =>
              have h1 := List.all_eq_true.1 hbk k (List.mem_range.2 hk)
              rw [ho] at h1
              have h2 := List.all_eq_true.1 h1 ed (by simpa using hed)
              rw [hb] at h2
              have h3 : ed.on < k := by simpa using h2
              simp [ih ed.on h3 (by omega)]
          rw [hr] at hmem
          cases hmem
    apply Array.ext
    · simp [hsz]
    · intro k h1 h2
      have := key k (by omega)
      rw [Array.getD_eq_getD_getElem?, Array.getElem?_eq_getElem h1] at this
      simpa using this
  have hfin : ∀ (listed : Array Bool) (a : Act) (w : World), Inv ops a0 e F anc G listed a w → Region.ready .any ops listed = [] → Q .normal a w := by
    rintro listed a w ⟨hsz, α, rfl, hG, hk⟩ hr
    have hl := hall listed hsz hr
    subst hl
    have hh : has (Array.replicate ops.size true) = fun k => decide (k < ops.size) := by
      funext k
      unfold has
      rw [Array.getD_eq_getD_getElem?, Array.getElem?_replicate]
      by_cases h : k < ops.size <;> simp [h]
    rw [hh] at hG
    refine hend α w hG fun k hlt => ?_
    have := (hk k (by simp [Array.getD_eq_getD_getElem?, hlt])).1
    rw [hh] at this
    exact this
  intro fuel
  induction fuel with
  | zero =>
    intro listed a w hc hI
    have hr : Region.ready .any ops listed = [] := by
      rw [List.eq_nil_iff_forall_not_mem]
      intro i hi
      unfold Region.ready at hi
      rw [List.mem_filter] at hi
      have h1 : i < listed.size := by rw [hI.1]; exact List.mem_range.1 hi.1
      have h2 : listed.getD i true = false := by
        have := hi.2
        simp only [Bool.and_eq_true] at this
        simpa using this.1
      rw [Array.getD_eq_getD_getElem?, Array.getElem?_eq_getElem h1] at h2
      have h3 : false ∈ listed.toList := by
        have h4 : listed[i] = false := by simpa using h2
        rw [← h4]
        simp
      have := List.count_pos_iff.2 h3
      omega
    exact ⟨hr, hfin _ _ _ hI hr⟩
  | succ fuel ih =>
    intro listed a w hc hI
    refine ⟨fun hr => hfin _ _ _ hI hr, fun i hi => ?_⟩
    obtain ⟨hsz, α, rfl, hG, hk⟩ := hI
    unfold Region.ready at hi
    rw [List.mem_filter] at hi
    have hlt : i < ops.size := List.mem_range.1 hi.1
    obtain ⟨o, ho⟩ : ∃ o, ops[i]? = some o := ⟨ops[i], Array.getElem?_eq_getElem hlt⟩
    have hun : listed.getD i false = false := by
      have := hi.2
      simp only [Bool.and_eq_true] at this
      have h2 : listed.getD i true = false := by simpa using this.1
      rw [Array.getD_eq_getD_getElem?, Array.getElem?_eq_getElem (by omega)] at h2 ⊢
      simpa using h2
    have hdep : ∀ ed ∈ o.after.toList, Region.binds .any ed = true → listed.getD ed.on false = true := by
      intro ed hed hb
      have := hi.2
      simp only [Bool.and_eq_true, ho, Option.map_some, Option.getD_some] at this
      have h2 := Array.all_eq_true'.1 this.2 ed (by simpa using hed)
      simpa [hb] using h2
    have hanc : ∀ j, j ∈ anc i → listed.getD j false = true := by
      intro j hj
      have h1 := List.all_eq_true.1 han i (List.mem_range.2 hlt)
      rw [ho] at h1
      have h2 := List.all_eq_true.1 h1 j hj
      obtain ⟨ed, hed, h3⟩ := List.any_eq_true.1 h2
      simp only [Bool.and_eq_true, Bool.or_eq_true, beq_iff_eq] at h3
      have h4 := hdep ed hed h3.1
      rcases h3.2 with h5 | h5
      · rw [← h5]; exact h4
      · exact (hk ed.on h4).2 j (by simpa using h5)
    have hcl : ∀ j, has listed j = true → ∀ i, i ∈ anc j → has listed i = true := fun j hj i hi => (hk j hj).2 i hi
    have hcnt : (listed.setIfInBounds i true).toList.count false ≤ fuel := by
      have hi2 : i < listed.toList.length := by simpa [hsz] using hlt
      have hv : listed.toList[i] = false := by
        rw [Array.getD_eq_getD_getElem?, Array.getElem?_eq_getElem (by omega)] at hun
        simpa using hun
      rw [Array.toList_setIfInBounds, List.count_set hi2, hv]
      have hp : 0 < listed.toList.count false := List.count_pos_iff.2 (by rw [← hv]; exact List.getElem_mem _)
      show listed.toList.count false - 1 + 0 ≤ fuel
      omega
    have hL : ∀ k, (listed.setIfInBounds i true).getD k false = if k = i then true else listed.getD k false := by
      intro k
      rw [Array.getD_eq_getD_getElem?, Array.getD_eq_getD_getElem?, Array.getElem?_setIfInBounds]
      by_cases hk : i = k
      · subst hk; simp [hsz, hlt]
      · rw [if_neg hk, if_neg (fun h => hk h.symm)]
    have hran : has (listed.setIfInBounds i true) = ran (has listed) i := funext hL
    have hnext : ∀ v α' w', (∀ j, j % 1000 ≠ i → α' j = α j) → v = e i α' → F i (ran (has listed) i) α' w' → Step i α' w w' →
        wpAny P .any ops Q fuel (listed.setIfInBounds i true) ((frameAt ops e a0 listed α).put o.dst v) w' := by
      intro v α' w' hα hv hFi hst
      subst hv
      have hsame : ∀ k, k ≠ i → listed.getD k false = true → ∀ j, (j % 1000 = k ∨ j % 1000 ∈ anc k) → α j = α' j := by
        intro k hki hl j hj
        refine (hα j ?_).symm
        intro hji
        rw [hji] at hj
        rcases hj with hj | hj
        · exact hki hj.symm
        · have := (hk k hl).2 _ hj
          rw [hun] at this
          cases this
      refine ih _ _ _ hcnt ⟨by simpa using hsz, α', ?_, by rw [hran]; exact hGs i _ _ _ _ hun hcl hanc hst hG, fun k hl => ?_⟩
      · exact frameAt_put hap ho hsz fun k hki hl => (he k α α' (hsame k hki hl)).symm
      · rw [hL k] at hl
        by_cases hki : k = i
        · subst hki
          exact ⟨by rw [hran]; exact hFi, fun j hj => by rw [hL j]; split; rfl; exact hanc j hj⟩
        · rw [if_neg hki] at hl
          refine ⟨?_, fun j hj => by rw [hL j]; split; rfl; exact (hk k hl).2 j hj⟩
          rw [hran]
          refine hFs k i _ _ _ _ (fun h => hki h.symm) (fun hm => ?_) hl hun hcl hanc hst (hF k _ α α' w (hsame k hki hl) (hk k hl).1)
          have := (hk k hl).2 _ hm
          rw [hun] at this
          cases this
    have hr := hrun i o ho (has listed) α (frameAt ops e a0 listed α) w (wpAny P .any ops Q fuel (listed.setIfInBounds i true)) hun hcl hG (fun j hj => ⟨hanc j hj, (hk j (hanc j hj)).1⟩)
      (fun j t hj hd ht => by
        rw [frameAt_get, slotOf_of hap hd, Array.getElem?_eq_getElem ht]
        simp only [Option.map_some, hanc j hj, if_true])
      (fun t ht => by
        rw [frameAt_get, ht]
        cases a0.tmps[t]? <;> rfl)
      hnext
    unfold wpOp
    rw [ho]
    show if _ then _ else _
    split
    · rename_i hw
      rw [if_pos hw] at hr
      exact .inl hr
    · rename_i hw
      rw [if_neg hw] at hr
      exact hr

/-- ONE END SERVES EVERY ORDER. -/
theorem wp_region_atoms {id : Nat} {w0 : World} (hm : P.follows .mixedOrders = true) (hap : apartB ops = true) (hbk : backB ops = true) (han : ancB ops anc = true)
    (he : ∀ k α α', (∀ j, (j % 1000 = k ∨ j % 1000 ∈ anc k) → α j = α' j) → e k α = e k α')
    (hF : ∀ k L α α' w, (∀ j, (j % 1000 = k ∨ j % 1000 ∈ anc k) → α j = α' j) → F k L α w → F k L α' w)
    (hFs : ∀ k i L α w w', i ≠ k → i ∉ anc k → L k = true → L i = false → (∀ j, L j = true → ∀ i, i ∈ anc j → L i = true) → (∀ j, j ∈ anc i → L j = true) → Step i α w w' → F k L α w → F k (ran L i) α w') (hGs : ∀ i L α w w', L i = false → (∀ j, L j = true → ∀ i, i ∈ anc j → L i = true) → (∀ j, j ∈ anc i → L j = true) → Step i α w w' → G L w → G (ran L i) w') (hG0 : G (fun _ => false) w0.drew)
    (hrun : ∀ k o, ops[k]? = some o → Runs P ops Q a0 e F anc G Step k o)
    (hend : ∀ α w, G (fun k => decide (k < ops.size)) w → (∀ k, k < ops.size → F k (fun k => decide (k < ops.size)) α w) → Q .normal (frameAt ops e a0 (Array.replicate ops.size true) α) w) :
    (Code.region id ops true).wp P Q a0 w0 := by
  refine wp_region_any hm (wpAny_atoms hap hbk han he hF hFs hGs hrun hend _ _ _ _ ?_ ⟨by simp, fun _ => 0, ?_, ?_, fun k hk => ?_⟩)
  · have : (Array.replicate ops.size false).toList.count false = ops.size := by simp
    omega
  · show a0 = Act.mk _ _
    cases a0 with
    | mk tm df =>
      refine act_ext (Array.ext_getElem? fun t => ?_) rfl
      have := frameAt_get (ops := ops) (e := e) (a0 := ⟨tm, df⟩) (Array.replicate ops.size false) (fun _ => 0) t
      refine Eq.trans ?_ this.symm
      show tm[t]? = (tm[t]?).map _
      cases tm[t]? with
      | none => rfl
      | some v =>
        simp only [Option.map_some]
        cases slotOf ops t with
        | none => rfl
        | some k => simp [Array.getD_eq_getD_getElem?, Array.getElem?_replicate]; intro h; split at h <;> simp_all
  · have hh : has (Array.replicate ops.size false) = fun _ => false := by
      funext k
      unfold has
      rw [Array.getD_eq_getD_getElem?, Array.getElem?_replicate]
      by_cases h : k < ops.size <;> simp [h]
    rw [hh]
    exact hG0
  · exfalso
    rw [Array.getD_eq_getD_getElem?, Array.getElem?_replicate] at hk
    split at hk <;> simp at hk
/-- The operations one by one. -/
def RunsAll (P : Program) (ops : Array Oper) (Q : Exit → Act → World → Prop) (a0 : Act) (e : Nat → Atoms → Value) (F : Nat → (Nat → Bool) → Atoms → World → Prop) (anc : Nat → List Nat) (G : (Nat → Bool) → World → Prop) (Step : Nat → Atoms → World → World → Prop) : Nat → List Oper → Prop
  | _, [] => True
  | k, o :: l => Runs P ops Q a0 e F anc G Step k o ∧ RunsAll P ops Q a0 e F anc G Step (k + 1) l
theorem RunsAll.at {ops' : Array Oper} : ∀ (l : List Oper) (n : Nat), RunsAll P ops' Q a0 e F anc G Step n l → ∀ k o, l[k]? = some o → Runs P ops' Q a0 e F anc G Step (n + k) o
  | [], _, _, k, o, h => by simp at h
  | x :: l, n, ⟨h1, h2⟩, 0, o, h => by
    obtain rfl : x = o := by simpa using h
    exact h1
  | x :: l, n, ⟨h1, h2⟩, k + 1, o, h => by
    have := RunsAll.at l (n + 1) h2 k o (by simpa using h)
    rwa [Nat.add_assoc, Nat.add_comm 1 k] at this
theorem RunsAll.all {l : List Oper} (h : RunsAll P l.toArray Q a0 e F anc G Step 0 l) : ∀ k o, l.toArray[k]? = some o → Runs P l.toArray Q a0 e F anc G Step k o := fun k o ho => by
  have := RunsAll.at l 0 h k o (by simpa using ho)
  rwa [Nat.zero_add] at this
theorem eval_of {a : Act} {t : Nat} {v : Value} (h : a.tmps[t]? = some v) : a.tmps.getD t undef = v := by
  rw [Array.getD_eq_getD_getElem?, h]; rfl
end
end Go.Proofs.YtghofdhhhbbaaaaGreatDoor.Rega
