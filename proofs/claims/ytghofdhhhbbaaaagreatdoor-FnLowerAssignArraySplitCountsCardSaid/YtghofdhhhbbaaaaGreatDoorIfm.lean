/- Maps keyed by nodes (an interface that holds a pointer), told as a list of (type, block): look-ups by a key whose type no entry has, or whose entry stands there; a store of a new key. No condition. -/
import Derived.Test.YtghofdhhhbbaaaaGreatDoorMaps
import Derived.Test.YtghofdhhhbbaaaaGreatDoorMore
import Derived.Test.YtghofdhhhbbaaaaGreatDoorApp
namespace Go.Proofs.YtghofdhhhbbaaaaGreatDoor.Own
open Go.RowKit Base
set_option linter.unusedVariables false
def imK (t b : Nat) : Value := .iface t (.pointer (some ⟨b, 0, none⟩))
def imE : List (Nat × Nat) → Nat → List MapEntry
  | [], _ => []
  | u :: l, i => ⟨imK u.1 u.2, .bool true, i⟩ :: imE l (i + 1)
def imA (l : List (Nat × Nat)) : Array MapEntry := (imE l 0).toArray
def imN (l : List (Nat × Nat)) (t : Nat) : Bool := l.all fun u => !(u.1 == t)
theorem imE_snoc : ∀ (l : List (Nat × Nat)) (t b i : Nat), imE (l ++ [(t, b)]) i = imE l i ++ [⟨imK t b, .bool true, i + l.length⟩]
  | [], _, _, _ => rfl
  | u :: l, t, b, i => by
    show _ :: imE (l ++ [(t, b)]) (i + 1) = _
    rw [imE_snoc l t b (i + 1), show i + 1 + l.length = i + (u :: l).length by simp only [List.length_cons]; omega]
    rfl
theorem imA_push (l : List (Nat × Nat)) (t b : Nat) : (imA l).push ⟨imK t b, .bool true, l.length⟩ = imA (l ++ [(t, b)]) := by
  unfold imA
  rw [imE_snoc, Nat.zero_add]
  simp
theorem imA_toList (l : List (Nat × Nat)) : (imA l).toList = imE l 0 := by simp [imA]
theorem imN_cons {u : Nat × Nat} {l : List (Nat × Nat)} {t : Nat} (h : imN (u :: l) t = true) : ¬ t = u.1 ∧ imN l t = true := by
  simp only [imN, List.all_cons, Bool.and_eq_true, Bool.not_eq_true', beq_eq_false_iff_ne] at h
  exact ⟨fun e => h.1 e.symm, h.2⟩
/-- A key's type: a pointer, comparable. -/
structure Kt (P : Program) (E t : TypeId) : Prop where
  e : ∃ ms, P.underlying E = some (.interface ms)
  c : (P.info? t).map (·.comparable) = some true
  p : P.underlying t = some (.pointer (P.pointee t))
  s : ∀ w, isOk ((sizeOf (P.pointee t)).run P w) = true
section
variable {P : Program} (w : World) {E : TypeId} {t : TypeId}
theorem run_check_im (h : Kt P E t) (emp : Bool) (b : Nat) : (Instr.checkKey emp 10000 E (imK t b)).run P w = .ok () w := by
  obtain ⟨ms, he⟩ := h.e
  obtain ⟨i, hi, hc⟩ := Option.map_eq_some_iff.1 h.c
  have h1 : ∀ d : Nat, (Instr.checkKey emp (d + 1) t (.pointer (some ⟨b, 0, none⟩))).run P w = .ok () w := fun d => by
    rw [Instr.checkKey]
    simp [run_underlying h.p]
  have hd : ∀ d : Nat, (Instr.checkKey emp (d + 1 + 1) E (.iface t (.pointer (some ⟨b, 0, none⟩)))).run P w = .ok () w := fun d => by
    rw [Instr.checkKey]
    simp [run_underlying he, typeInfo, hi, hc, h1]
  exact hd 9998
theorem run_equal_im_ne (h : Kt P E t) {u : TypeId} (hne : ¬ t = u) (x y : Value) : (Op.equal E (.iface t x) (.iface u y)).run P w = .ok false w := by
  obtain ⟨ms, he⟩ := h.e
  have hd : ∀ d : Nat, (Op.equalIn (d + 1) E (.iface t x) (.iface u y)).run P w = .ok false w := fun d => by
    rw [Op.equalIn]
    simp [run_underlying he, hne]
  exact hd 9999
theorem run_equal_im_same (h : Kt P E t) (b : Nat) : (Op.equal E (imK t b) (imK t b)).run P w = .ok true w := by
  obtain ⟨ms, he⟩ := h.e
  obtain ⟨i, hi, hc⟩ := Option.map_eq_some_iff.1 h.c
  obtain ⟨n, w', hn⟩ := isOk_inv (h.s w)
  have hw := sizeOf_world w hn
  subst hw
  have h1 : ∀ d : Nat, (Op.equalIn (d + 1) t (.pointer (some ⟨b, 0, none⟩)) (.pointer (some ⟨b, 0, none⟩))).run P w' = .ok true w' := fun d => by
    by_cases h0 : n = 0
    · simp [Op.equalIn, run_underlying h.p, hn, h0]
    · simp [Op.equalIn, run_underlying h.p, hn, sameAddr]
  have hd : ∀ d : Nat, (Op.equalIn (d + 1 + 1) E (.iface t (.pointer (some ⟨b, 0, none⟩))) (.iface t (.pointer (some ⟨b, 0, none⟩)))).run P w' = .ok true w' := fun d => by
    rw [Op.equalIn]
    simp [run_underlying he, typeInfo, hi, hc, h1]
  exact hd 9998
theorem run_asking_im_no (h : Kt P E t) (b : Nat) : ∀ (l : List (Nat × Nat)) (j i : Nat), imN l t = true → (Instr.findAsking E (imK t b) (imE l j) i).run P w = .ok none w
  | [], _, _, _ => by simp [imE, Instr.findAsking]
  | u :: l, j, i, hn => by
    obtain ⟨h1, h2⟩ := imN_cons hn
    have ih := run_asking_im_no h b l (j + 1) (i + 1) h2
    have he : (Op.equal E (imK t b) (imK u.1 u.2)).run P w = .ok false w := run_equal_im_ne w h h1 _ _
    simp [imE, Instr.findAsking, he, ih]
theorem run_asking_im_yes (h : Kt P E t) (b : Nat) : ∀ (l m : List (Nat × Nat)) (j i : Nat), imN l t = true → (Instr.findAsking E (imK t b) (imE (l ++ (t, b) :: m) j) i).run P w = .ok (some (i + l.length, .bool true)) w
  | [], m, j, i, _ => by simp [imE, Instr.findAsking, run_equal_im_same w h b]
  | u :: l, m, j, i, hn => by
    obtain ⟨h1, h2⟩ := imN_cons hn
    have ih := run_asking_im_yes h b l m (j + 1) (i + 1) h2
    have he : (Op.equal E (imK t b) (imK u.1 u.2)).run P w = .ok false w := run_equal_im_ne w h h1 _ _
    simp only [List.cons_append, imE, Instr.findAsking, Sem.run_bind, he, Result.andThen_ok, Bool.false_eq_true, if_false, ih, List.length_cons]
    rw [show i + 1 + l.length = i + (l.length + 1) by omega]
theorem run_find_im {x : Option (Nat × Value)} (h : Kt P E t) (b : Nat) (l : List (Nat × Nat)) (hf : (Instr.findAsking E (imK t b) (imE l 0) 0).run P w = .ok x w) : (Instr.findKey E (imK t b) (imA l).toList).run P w = .ok x w := by
  obtain ⟨ms, he⟩ := h.e
  rw [imA_toList]
  cases l with
  | nil =>
    simp [imE, Instr.findAsking] at hf
    simp [Instr.findKey, run_underlying he, imE, Instr.findNow, hf]
  | cons u l =>
    have e : Instr.findNow (.interface ms) (imK t b) (imE (u :: l) 0) 0 = none := rfl
    simp [Instr.findKey, run_underlying he, e, hf]
variable {mt e : TypeId} {r : Nat} {l : List (Nat × Nat)} {c : Nat}
theorem run_lookup_im_no (hu : P.underlying mt = some (.map E e)) (h : Kt P E t) (hm : MapAt w r (imA l) c) (b : Nat) (z : Value) (hz : (zeroValue e).run P w = .ok z w) (hn : imN l t = true) (ok : Bool) :
    (Instr.lookup mt (.map (some r)) (imK t b) ok).run P w = .ok (if ok then .tuple #[z, .bool false] else z) w := by
  simp only [Instr.lookup, Sem.run_bind, run_underlying hu, Result.andThen_ok]
  simp [Base.run_getObj_map w hm, run_check_im w h, run_find_im w h b l (run_asking_im_no w h b l 0 0 hn), hz]
theorem run_lookup_im_yes (hu : P.underlying mt = some (.map E e)) (h : Kt P E t) {m : List (Nat × Nat)} {b : Nat} (hm : MapAt w r (imA (l ++ (t, b) :: m)) c) (hn : imN l t = true) (ok : Bool) :
    (Instr.lookup mt (.map (some r)) (imK t b) ok).run P w = .ok (if ok then .tuple #[.bool true, .bool true] else .bool true) w := by
  simp only [Instr.lookup, Sem.run_bind, run_underlying hu, Result.andThen_ok]
  simp [Base.run_getObj_map w hm, run_check_im w h, run_find_im w h b _ (run_asking_im_yes w h b l m 0 0 hn)]
theorem run_update_im (hu : P.underlying mt = some (.map E e)) (h : Kt P E t) {b : Nat} (hm : MapAt w r (imA l) l.length) (hn : imN l t = true) :
    (Instr.mapUpdate mt (.map (some r)) (imK t b) (.bool true)).run P w = .ok () (setMap w r (imA (l ++ [(t, b)])) (l ++ [(t, b)]).length) := by
  simp only [Instr.mapUpdate, Sem.run_bind, run_underlying hu, Result.andThen_ok]
  simp [Base.run_getObj_map w hm, run_check_im w h, run_find_im w h b l (run_asking_im_no w h b l 0 0 hn), Base.run_setObj_map w hm, ← imA_push]
end
section
variable {P : Program} {ops : Array Oper} {Q : Exit → Act → World → Prop} {rest : List Oper} {a : Act} {w : World} {o : Oper} {K : Act → World → Prop}
variable {mt e E ty : TypeId} {r c b : Nat} {l : List (Nat × Nat)} {m x y : Operand} {ok : Bool}
theorem wp_lookup_im_no (hop : o.op = Op.lookup mt m x ok) (hu : P.underlying mt = some (.map E e)) (h : Kt P E ty) (hm : MapAt w r (imA l) c) (h1 : a.eval m = .map (some r)) (h2 : a.eval x = imK ty b) (z : Value) (hz : (zeroValue e).run P w = .ok z w) (hn : imN l ty = true)
    (hK : K (a.put o.dst (if ok then .tuple #[z, .bool false] else z)) w) : o.wp P a w K Q := by
  unfold Oper.wp
  simp [execOp, hop, h1, h2, run_lookup_im_no w hu h hm b z hz hn ok, Result.andThen]
  exact hK
theorem wpList_lookup_im_no (hg : o.guard = none) (hop : o.op = Op.lookup mt m x ok) (hu : P.underlying mt = some (.map E e)) (h : Kt P E ty) (hm : MapAt w r (imA l) c) (h1 : a.eval m = .map (some r)) (h2 : a.eval x = imK ty b) (z : Value) (hz : (zeroValue e).run P w = .ok z w) (hn : imN l ty = true)
    (hK : wpList P ops Q rest (a.put o.dst (if ok then .tuple #[z, .bool false] else z)) w) : wpList P ops Q (o :: rest) a w :=
  wpList_plain hg fun _ hK' => wp_lookup_im_no hop hu h hm h1 h2 z hz hn (hK' _ _ hK)
theorem wp_lookup_im_yes {l2 : List (Nat × Nat)} (hop : o.op = Op.lookup mt m x ok) (hu : P.underlying mt = some (.map E e)) (h : Kt P E ty) (hm : MapAt w r (imA (l ++ (ty, b) :: l2)) c) (h1 : a.eval m = .map (some r)) (h2 : a.eval x = imK ty b) (hn : imN l ty = true)
    (hK : K (a.put o.dst (if ok then .tuple #[.bool true, .bool true] else .bool true)) w) : o.wp P a w K Q := by
  unfold Oper.wp
  simp [execOp, hop, h1, h2, run_lookup_im_yes w hu h hm hn ok, Result.andThen]
  exact hK
theorem wpList_lookup_im_yes {l2 : List (Nat × Nat)} (hg : o.guard = none) (hop : o.op = Op.lookup mt m x ok) (hu : P.underlying mt = some (.map E e)) (h : Kt P E ty) (hm : MapAt w r (imA (l ++ (ty, b) :: l2)) c) (h1 : a.eval m = .map (some r)) (h2 : a.eval x = imK ty b) (hn : imN l ty = true)
    (hK : wpList P ops Q rest (a.put o.dst (if ok then .tuple #[.bool true, .bool true] else .bool true)) w) : wpList P ops Q (o :: rest) a w :=
  wpList_plain hg fun _ hK' => wp_lookup_im_yes hop hu h hm h1 h2 hn (hK' _ _ hK)
theorem wpList_update_im {l' : List (Nat × Nat)} {n' : Nat} (hg : o.guard = none) (hop : o.op = Op.mapUpdate mt m x y) (hu : P.underlying mt = some (.map E e)) (h : Kt P E ty) (hm : MapAt w r (imA l) c) (hc : c = l.length) (h1 : a.eval m = .map (some r)) (h2 : a.eval x = imK ty b) (h3 : a.eval y = .bool true) (hn : imN l ty = true) (hl : l ++ [(ty, b)] = l') (hn' : l'.length = n')
    (hK : wpList P ops Q rest (a.put o.dst undef) (setMap w r (imA l') n')) : wpList P ops Q (o :: rest) a w := by
  subst hl
  subst hn'
  subst hc
  refine wpList_plain hg fun _ hK' => ?_
  unfold Oper.wp
  simp [execOp, hop, h1, h2, h3, run_update_im w hu h hm hn, Result.andThen]
  simp at hK
  exact hK' _ _ hK
end
end Go.Proofs.YtghofdhhhbbaaaaGreatDoor.Own
